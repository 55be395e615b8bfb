import JvmDerived
import JvmDerived.Pilot.@@N@@Statement
import JvmDerived.Pilot.@@N@@Code
set_option linter.unusedVariables false
set_option linter.unusedSimpArgs false
namespace Jvm.RoadKit
open Sem ClassFile Op Lib Jvm.Stand Jvm.Free Jvm.LawKit
section New
variable {p : Program} {l : Launch} {e : Env} {R : Room} {s : State} {m : MethodId} {args : Array Value} {below : List Frame} {meth : Method} {c : Code} {T : State} {locs : List Loc} {cells slots : Nat}
theorem retI (X : Stand p l e R s m args below meth c T locs cells slots) (hx : p.tables.exec = Jvm.exec) {pc : Nat} {Ls : Array Slot} {z : Int32} {rest : List Value} (hret : meth.sig.returnType = some .int) (hd : decode c.code pc = .ok (.ireturn, 1)) {fs : List Frame}
    (hl : ∀ (f : JFrame) (acts : List Action), f.method = m → f.locked = none → f.entered = [] → (doReturn e (T.setTop f) acts (some (.int z))).1 = T.setFrames fs) : Steps p.tables e below (T.setTop (mkF m pc Ls (.int z :: rest))) (T.setFrames fs) := by
  have hm' : T.vm.method? m = some meth := X.method'
  have hn : narrow .int (.int z) = .int z := rfl
  show Steps p.tables e below (T.setTop { method := m, pc := pc, locals := Ls, stack := _ :: rest, locked := none }) _
  jvm_step X.here [X.here.top, hx, hd, hm', hret, hn]
  first | (intro acts; rw [hl _ acts rfl rfl rfl]) | rw [hl _ _ rfl rfl rfl]
  exact Steps.refl _
theorem own_retJ (X : Stand p l e R s m args below meth c T locs cells slots) (hx : p.tables.exec = Jvm.exec) {pc : Nat} {Ls : Array Slot} {z : Int64} {rest : List Value} (hret : meth.sig.returnType = some .long) (hd : decode c.code pc = .ok (.lreturn, 1)) {fs : List Frame}
    (hl : ∀ (f : JFrame) (acts : List Action), f.method = m → f.locked = none → f.entered = [] → (doReturn e (T.setTop f) acts (some (.long z))).1 = T.setFrames fs) : Steps p.tables e below (T.setTop (mkF m pc Ls (.long z :: rest))) (T.setFrames fs) :=
  retOut X hx hret rfl (Or.inr (Or.inl ⟨rfl, rfl, z, rfl⟩)) hd hl
theorem own_retA (X : Stand p l e R s m args below meth c T locs cells slots) (hx : p.tables.exec = Jvm.exec) {pc : Nat} {Ls : Array Slot} {w : Value} {t : FieldType} {rest : List Value} (hret : meth.sig.returnType = some t) (ht : t.isReference = true) (hw : w.isRef = true) (hd : decode c.code pc = .ok (.areturn, 1)) {fs : List Frame}
    (hl : ∀ (f : JFrame) (acts : List Action), f.method = m → f.locked = none → f.entered = [] → (doReturn e (T.setTop f) acts (some w)).1 = T.setFrames fs) : Steps p.tables e below (T.setTop (mkF m pc Ls (w :: rest))) (T.setFrames fs) :=
  retOut X hx hret (by rcases ref_cases hw with rfl | ⟨a, rfl⟩ <;> cases t <;> first | rfl | (simp [FieldType.isReference] at ht)) (Or.inr (Or.inr (Or.inr (Or.inr ⟨rfl, ht, hw⟩)))) hd hl
theorem own_retN (X : Stand p l e R s m args below meth c T locs cells slots) (hx : p.tables.exec = Jvm.exec) {pc : Nat} {Ls : Array Slot} {z z' : Int32} {t : FieldType} {rest : List Value} (hret : meth.sig.returnType = some t) (ht : t = .boolean ∨ t = .byte ∨ t = .char ∨ t = .short) (hz : nar t z = z')
    (hd : decode c.code pc = .ok (.ireturn, 1)) {fs : List Frame} (hl : ∀ (f : JFrame) (acts : List Action), f.method = m → f.locked = none → f.entered = [] → (doReturn e (T.setTop f) acts (some (.int z'))).1 = T.setFrames fs) :
    Steps p.tables e below (T.setTop (mkF m pc Ls (.int z :: rest))) (T.setFrames fs) := by subst hz; exact retN X hx hret ht hd hl
/-- from a state, some run leads to an end that F takes -/
def own_Gl (tb : Tables) (e : Env) (below : List Frame) (F : State → Outcome → Prop) (st : State) : Prop := ∃ s₂ o, Steps tb e below st s₂ ∧ F s₂ o
theorem own_go {tb : Tables} {F : State → Outcome → Prop} {st st' : State} (h : ∀ t, Steps tb e below st' t → Steps tb e below st t) (g : own_Gl tb e below F st') : own_Gl tb e below F st := by
  obtain ⟨t, o, k, r⟩ := g; exact ⟨t, o, h t k, r⟩
theorem own_fin {tb : Tables} {F : State → Outcome → Prop} {st t : State} {o : Outcome} (h : Steps tb e below st t) (r : F t o) : own_Gl tb e below F st := ⟨t, o, h, r⟩
theorem own_start {tb : Tables} {G : State → Outcome → Prop} {g g' : JFrame} (q : g = g') (k : ∀ F, F = G → own_Gl tb e below F (T.setTop g')) : ∃ s₂ o, Steps tb e below (T.setTop g) s₂ ∧ G s₂ o := by subst q; exact k G rfl
/-- the counts of a stand as plain numbers -/
theorem own_sn {k k' n n' : Nat} {L : List Loc} (X : Stand p l e R s m args below meth c T L k n) (hk : k = k') (hn : n = n') : Stand p l e R s m args below meth c T L k' n' := by subst hk hn; exact X
theorem own_fr {n0 : Nat} {L A B : List Loc} (q : L = A ++ B) (NA : Fr n0 A) (NB : Fr n0 B) : Fr n0 L := by subst q; exact Fr.app NA NB
theorem own_frn {n0 : Nat} {L : List Loc} (q : L = []) : Fr n0 L := by subst q; exact Fr.nil n0
end New
/-- an array of length z whose place j holds g j -/
def own_A (Z : State) (h : Heap) (a : Addr) (ty : FieldType) (z : Int32) (g : Nat → Value) : Prop := ∃ c : Cell, Arr Z h a c ty ∧ c.slots.size = z.toNatClampNeg ∧ ¬ z < 0 ∧ ∀ j, j < c.slots.size → c.slots[j]? = some (g j)
section OwnA
variable {Z : State} {h h' : Heap} {a b : Addr} {ty : FieldType} {z : Int32} {g : Nat → Value} {sl : Nat} {v : Value} {ws : List Addr}
theorem own_A.lt (F : own_A Z h a ty z g) : a < h.size := by obtain ⟨c, A, -⟩ := F; exact A.lt
theorem own_A.ext (F : own_A Z h a ty z g) (E : Ext h h') : own_A Z h' a ty z g := by obtain ⟨c, A, r⟩ := F; exact ⟨c, A.ext E, r⟩
theorem own_A.other (F : own_A Z h b ty z g) (W : Wr h h' a sl v) (q : b ≠ a) : own_A Z h' b ty z g := by obtain ⟨c, A, r⟩ := F; exact ⟨c, A.other W q, r⟩
theorem own_A.keep (F : own_A Z h a ty z g) (K : Keep h h' ws) (q : a ∉ ws) : own_A Z h' a ty z g := by obtain ⟨c, A, r⟩ := F; exact ⟨c, ⟨K.2.1 a c A.1 q, A.2⟩, r⟩
theorem own_A.set (F : own_A Z h a ty z g) {i : Nat} (W : Wr h h' a i v) : own_A Z h' a ty z (fun k => if k = i then v else g k) := by
  obtain ⟨c, A, S, N, H⟩ := F
  refine ⟨_, A.same W, by rw [sz_set]; exact S, N, fun j hj => ?_⟩
  rw [sz_set] at hj
  by_cases u : j = i
  · subst u; simp [Cell.setSlot, hj]
  · show _ = some (if j = i then v else g j)
    rw [if_neg u]; simp only [Cell.setSlot]; rw [Array.getElem?_setIfInBounds_ne (fun q => u q.symm)]; exact H j hj
theorem own_A.new {k : ClassId} (A : Arr Z h a (newA k ty z) ty) (q : ¬ z < 0) : own_A Z h a ty z (fun _ => defaultValue ty) := by
  obtain ⟨c, A', -, S, N, H, -⟩ := Arv.new A q
  exact ⟨c, A', S, N, fun j hj => H j hj⟩
theorem own_A.of (F : own_A Z h a ty z g) {g' : Nat → Value} (q : ∀ j, j < z.toNatClampNeg → g j = g' j) : own_A Z h a ty z g' := by
  obtain ⟨c, A, S, N, H⟩ := F; exact ⟨c, A, S, N, fun j hj => by rw [← q j (S ▸ hj)]; exact H j hj⟩
end OwnA
end Jvm.RoadKit
/- laws to paste: Road.backV, Road.eqW, Road.codOf (cut by pick.py; bodies as the Statement names them) -/
namespace Jvm.Pilot.@@N@@
namespace StrChars
open Jvm Sem ClassFile Op Lib Jvm.Stand Jvm.Free.XT Jvm.Free.ALB Jvm.Free.JM Jvm.Free
open Jvm.Lib.Cold (StaticIs)
/-- a char array whose places are chars -/
def Ch (a : Addr) (A : Cell) (U : State) : Prop := Arr .char a A U ∧ Typed .char A
theorem Ch.mv {a : Addr} {A : Cell} {U U' : State} (h : Ch a A U) (hal : U.vm.Alike U'.vm) (hh : U'.heap = U.heap) : Ch a A U' := ⟨h.1.mv hal hh, h.2⟩
theorem Ch.keep {a : Addr} {A : Cell} {U U' : State} (h : Ch a A U) (hal : U.vm.Alike U'.vm) (hk : U'.heap[a]? = some A) : Ch a A U' := ⟨h.1.keep hal hk, h.2⟩
/-- what place i of a char[]'s cell holds -/
def cv (A : Cell) (i : Nat) : Int32 := match A.slots[i]? with | some (.int x) => x | _ => 0
theorem Ch.get {a : Addr} {A : Cell} {U : State} (h : Ch a A U) {i : Nat} (hi : i < A.slots.size) : A.slots[i]? = some (.int (cv A i)) := by
  have e := Array.getElem?_eq_getElem hi
  have f := h.2 i _ e
  unfold cv; rw [e]
  generalize A.slots[i] = v at f
  cases v <;> simp [fits] at f ⊢
/-- the byte that i2b leaves of a char -/
def lo8 (x : Int32) : Int32 := x.toInt8.toInt32
theorem fits_lo8 (y : Int32) : fits .byte (.int (lo8 y)) = true := by
  have h1 := y.toInt8.le_toInt
  have h2 := y.toInt8.toInt_lt
  simp only [lo8, fits, Bool.and_eq_true, decide_eq_true_eq, Int32.le_iff_toInt_le, Int8.toInt_toInt32, show (-128 : Int32).toInt = -128 from by decide, show (127 : Int32).toInt = 127 from by decide]
  omega
/-- A' is A but that each place j of lo .. hi - 1 holds f j -/
def Laid (A A' : Cell) (lo hi : Nat) (f : Nat → Value) : Prop := A'.cls = A.cls ∧ A'.vm = A.vm ∧ A'.slots.size = A.slots.size ∧ ∀ i, A'.slots[i]? = if lo ≤ i ∧ i < hi then some (f i) else A.slots[i]?
theorem Laid.zero (A : Cell) (lo : Nat) (f : Nat → Value) : Laid A A lo (lo + 0) f := ⟨rfl, rfl, rfl, fun i => by rw [if_neg (by omega)]⟩
theorem Laid.step {A Ak : Cell} {lo k : Nat} {f : Nat → Value} {v : Value} (h : Laid A Ak lo k f) (hlo : lo ≤ k) (hk : k < Ak.slots.size) (hv : v = f k) : Laid A (Ak.setSlot k v) lo (k + 1) f := by
  refine ⟨h.1, h.2.1, by simpa [Cell.setSlot] using h.2.2.1, fun i => ?_⟩
  by_cases e : k = i
  · subst e; rw [Cell.slots_setSlot_self v hk, if_pos (by omega), hv]
  · rw [Cell.slots_setSlot_ne v e, h.2.2.2 i]
    by_cases q : lo ≤ i ∧ i < k
    · rw [if_pos q, if_pos (by omega)]
    · rw [if_neg q, if_neg (by omega)]
def U16 : String := "java/lang/StringUTF16"
namespace Cmp5
def yN : MethodName := ⟨"java/lang/StringUTF16", "compress", "([CI[BII)I"⟩
abbrev yB : ByteArray := jdk_52_method_21_code
theorem d0 : decode yB 0 = .ok (.iconst 0, 1) := by decide +kernel
theorem d1 : decode yB 1 = .ok (.istore 5, 2) := by decide +kernel
theorem d3 : decode yB 3 = .ok (.iload 5, 2) := by decide +kernel
theorem d5 : decode yB 5 = .ok (.iload 4, 2) := by decide +kernel
theorem d7 : decode yB 7 = .ok (.if_icmp (.ge) 37, 3) := by decide +kernel
theorem d10 : decode yB 10 = .ok (.aload_n 0, 1) := by decide +kernel
theorem d11 : decode yB 11 = .ok (.iload_n 1, 1) := by decide +kernel
theorem d12 : decode yB 12 = .ok (.caload, 1) := by decide +kernel
theorem d13 : decode yB 13 = .ok (.istore 6, 2) := by decide +kernel
theorem d15 : decode yB 15 = .ok (.iload 6, 2) := by decide +kernel
theorem d17 : decode yB 17 = .ok (.sipush 255, 3) := by decide +kernel
theorem d20 : decode yB 20 = .ok (.if_icmp (.le) 6, 3) := by decide +kernel
theorem d26 : decode yB 26 = .ok (.aload_n 2, 1) := by decide +kernel
theorem d27 : decode yB 27 = .ok (.iload_n 3, 1) := by decide +kernel
theorem d28 : decode yB 28 = .ok (.iload 6, 2) := by decide +kernel
theorem d30 : decode yB 30 = .ok (.i2b, 1) := by decide +kernel
theorem d31 : decode yB 31 = .ok (.bastore, 1) := by decide +kernel
theorem d32 : decode yB 32 = .ok (.iinc 1 1, 3) := by decide +kernel
theorem d35 : decode yB 35 = .ok (.iinc 3 1, 3) := by decide +kernel
theorem d38 : decode yB 38 = .ok (.iinc 5 1, 3) := by decide +kernel
theorem d41 : decode yB 41 = .ok (.goto (-38), 3) := by decide +kernel
theorem d44 : decode yB 44 = .ok (.iload 4, 2) := by decide +kernel
theorem d46 : decode yB 46 = .ok (.ireturn, 1) := by decide +kernel
def site : List Cond := []
def tab : Cond := tabOf yN yB 7 (some .int) site
def P (b : Addr) (A : Cell) (d : Addr) (B : Cell) (o q len : Nat) (args : Array Value) (s : State) : Prop := args = #[.ref b, .int (Int32.ofNat o), .ref d, .int (Int32.ofNat q), .int (Int32.ofNat len)] ∧ Ch b A s ∧ Arr .byte d B s ∧ b ≠ d ∧ o + len ≤ A.slots.size ∧ q + len ≤ B.slots.size ∧ ∀ i, i < len → ¬ 255 < cv A (o + i)
def E (b : Addr) (A : Cell) (d : Addr) (B : Cell) (o q len : Nat) (r : Option Value) (s u : State) : Prop := r = some (.int (Int32.ofNat len)) ∧ ∃ B', Put d B' s u ∧ Laid B B' q (q + len) (fun j => Value.int (lo8 (cv A (o + (j - q)))))
/-- no char of the range above 255: len; the places written hold each char's low byte -/
theorem law (l : Launch) (b : Addr) (A : Cell) (d : Addr) (B : Cell) (o q len : Nat) : Law l yN 5 5 0 0 yB 7 (some .int) site (P b A d B o q len) (E b A d B o q len) (copyLocs d q len) 0 0 := by
  refine Law.of_walk (plainFor_of_name (by decide +kernel)) (by decide +kernel) (by decide +kernel) (by decide) (fun _ _ h => by rw [h.1]; rfl) (fun _ U U' hal hh h => ⟨h.1, h.2.1.mv hal hh, h.2.2.1.mv hal hh, h.2.2.2⟩) (fun r U U' V V' h1 hal h2 h => ⟨h.1, h.2.elim fun B' q => ⟨B', q.1.mv h1 h2, q.2⟩⟩) ?_
  intro p e s m args below meth c s₁ X0 hexec hbytes hml hret hlk hnm hown hh0 W hP
  obtain ⟨rfl, hA, hB, hne, l1, l2, hp⟩ := hP
  have c1 : Steps p.tables e below (s₁.setTop (entryFrame m #[.ref b, .int (Int32.ofNat o), .ref d, .int (Int32.ofNat q), .int (Int32.ofNat len)] 7)) (s₁.setTop (mkF m 0 #[.val (.ref b), .val (.int (Int32.ofNat o)), .val (.ref d), .val (.int (Int32.ofNat q)), .val (.int (Int32.ofNat len)), .unset, .unset] [])) := entry rfl
  have hA0 := hA.1.mv X0.warmed.alike hh0
  have hB0 := hB.mv X0.warmed.alike hh0
  have a31 := hA.1.2.2.2
  have c2 : Steps p.tables e below (s₁.setTop (entryFrame m #[.ref b, .int (Int32.ofNat o), .ref d, .int (Int32.ofNat q), .int (Int32.ofNat len)] 7)) (s₁.setTop (mkF m 3 #[.val (.ref b), .val (.int (Int32.ofNat o)), .val (.ref d), .val (.int (Int32.ofNat q)), .val (.int (Int32.ofNat len)), .val (.int 0), .unset] [])) := c1.trans (by
    refine iconstV X0.here hexec rfl 0 (hb hbytes d0) (by decide) ?_
    refine XS.istore X0.here hexec rfl (hb hbytes d1) rfl rfl ?_
    exact Steps.refl _)
  have loop : ∀ (r i : Nat), i + r = len → ∀ (z : Slot), (z = .unset ∨ ∃ w, z = .val w ∧ w.category = 1) → ∀ (Tl : State) (Bk : Cell), Stand p l e { frames := 0, locals := 0, cells := 0, slots := 0 } s m #[.ref b, .int (Int32.ofNat o), .ref d, .int (Int32.ofNat q), .int (Int32.ofNat len)] below meth c Tl ([] ++ copyLocs d q i) 0 0 → Put d Bk s₁ Tl → Laid B Bk q (q + i) (fun j => Value.int (lo8 (cv A (o + (j - q))))) →
      Steps p.tables e below (s₁.setTop (entryFrame m #[.ref b, .int (Int32.ofNat o), .ref d, .int (Int32.ofNat q), .int (Int32.ofNat len)] 7)) (Tl.setTop (mkF m 3 #[.val (.ref b), .val (.int (Int32.ofNat (o + i))), .val (.ref d), .val (.int (Int32.ofNat (q + i))), .val (.int (Int32.ofNat len)), .val (.int (Int32.ofNat i)), z] [])) → ∃ (T' : State) (B' : Cell) (z' : Slot), Stand p l e { frames := 0, locals := 0, cells := 0, slots := 0 } s m #[.ref b, .int (Int32.ofNat o), .ref d, .int (Int32.ofNat q), .int (Int32.ofNat len)] below meth c T' ([] ++ copyLocs d q len) 0 0 ∧ Put d B' s₁ T' ∧ Laid B B' q (q + len) (fun j => Value.int (lo8 (cv A (o + (j - q))))) ∧
      Steps p.tables e below (s₁.setTop (entryFrame m #[.ref b, .int (Int32.ofNat o), .ref d, .int (Int32.ofNat q), .int (Int32.ofNat len)] 7)) (T'.setTop (mkF m 3 #[.val (.ref b), .val (.int (Int32.ofNat (o + len))), .val (.ref d), .val (.int (Int32.ofNat (q + len))), .val (.int (Int32.ofNat len)), .val (.int (Int32.ofNat len)), z'] [])) := by
    intro r
    induction r with
    | zero =>
      intro i hi z hz Tl Bk Xl pl fl cl
      have hil : i = len := by omega
      rw [hil] at Xl fl cl
      exact ⟨Tl, Bk, z, Xl, pl, fl, cl⟩
    | succ r ih =>
      intro i hi z hz Tl Bk Xl pl fl cl
      have all := X0.warmed.alike.symm.trans Xl.warmed.alike
      have hAl := hA0.keep all (pl.other hne hA0.1)
      have hBk := hB0.like all pl.1 fl.1 fl.2.1 fl.2.2.1
      have hlt : q + i < Bk.slots.size := by rw [fl.2.2.1]; omega
      have c3 : Steps p.tables e below (s₁.setTop (entryFrame m #[.ref b, .int (Int32.ofNat o), .ref d, .int (Int32.ofNat q), .int (Int32.ofNat len)] 7)) (Tl.setTop (mkF m 12 #[.val (.ref b), .val (.int (Int32.ofNat (o + i))), .val (.ref d), .val (.int (Int32.ofNat (q + i))), .val (.int (Int32.ofNat len)), .val (.int (Int32.ofNat i)), z] [.int (Int32.ofNat (o + i)), .ref b])) := cl.trans (by
        refine XS.iload Xl.here hexec rfl (hb hbytes d3) rfl ?_
        refine XS.iload Xl.here hexec rfl (hb hbytes d5) rfl ?_
        refine XS.icmpNo Xl.here hexec rfl (hb hbytes d7) rfl (ii_ge_f (lt32 (by omega) (by omega))) ?_
        refine XS.aloadN Xl.here hexec rfl (hb hbytes d10) rfl rfl ?_
        refine XS.iloadN Xl.here hexec rfl (hb hbytes d11) rfl ?_
        exact Steps.refl _)
      have c4 : Steps p.tables e below (s₁.setTop (entryFrame m #[.ref b, .int (Int32.ofNat o), .ref d, .int (Int32.ofNat q), .int (Int32.ofNat len)] 7)) (Tl.setTop (mkF m 13 #[.val (.ref b), .val (.int (Int32.ofNat (o + i))), .val (.ref d), .val (.int (Int32.ofNat (q + i))), .val (.int (Int32.ofNat len)), .val (.int (Int32.ofNat i)), z] [.int (cv A (o + i))])) := c3.trans (by
        refine Xl.aget hexec hAl rfl (hA.get (i := o + i) (by omega)) rfl rfl (hb hbytes d12) ?_
        exact Steps.refl _)
      have c5 : Steps p.tables e below (s₁.setTop (entryFrame m #[.ref b, .int (Int32.ofNat o), .ref d, .int (Int32.ofNat q), .int (Int32.ofNat len)] 7)) (Tl.setTop (mkF m 15 #[.val (.ref b), .val (.int (Int32.ofNat (o + i))), .val (.ref d), .val (.int (Int32.ofNat (q + i))), .val (.int (Int32.ofNat len)), .val (.int (Int32.ofNat i)), .val (.int (cv A (o + i)))] [])) := c4.trans (by
        refine XS.istoreS Xl.here hexec rfl (hb hbytes d13) rfl rfl hz ?_
        exact Steps.refl _)
      have c6 : Steps p.tables e below (s₁.setTop (entryFrame m #[.ref b, .int (Int32.ofNat o), .ref d, .int (Int32.ofNat q), .int (Int32.ofNat len)] 7)) (Tl.setTop (mkF m 31 #[.val (.ref b), .val (.int (Int32.ofNat (o + i))), .val (.ref d), .val (.int (Int32.ofNat (q + i))), .val (.int (Int32.ofNat len)), .val (.int (Int32.ofNat i)), .val (.int (cv A (o + i)))] [.int (lo8 (cv A (o + i))), .int (Int32.ofNat (q + i)), .ref d])) := c5.trans (by
        refine XS.iload Xl.here hexec rfl (hb hbytes d15) rfl ?_
        refine sipushV Xl.here hexec rfl 255 (hb hbytes d17) (by decide) ?_
        refine XS.icmpYes Xl.here hexec rfl (pc0 := 20) rfl (hb hbytes d20) rfl (ii_le_t (hp i (by omega))) (by decide) rfl ?_
        refine XS.aloadN Xl.here hexec rfl (hb hbytes d26) rfl rfl ?_
        refine XS.iloadN Xl.here hexec rfl (hb hbytes d27) rfl ?_
        refine XS.iload Xl.here hexec rfl (hb hbytes d28) rfl ?_
        refine i2b Xl.here hexec rfl (hb hbytes d30) rfl ?_
        exact Steps.refl _)
      obtain ⟨T7, X7, p7, st7⟩ := Xl.aput hexec hBk rfl hlt rfl (fits_lo8 (cv A (o + i))) (g := (mkF m 31 #[.val (.ref b), .val (.int (Int32.ofNat (o + i))), .val (.ref d), .val (.int (Int32.ofNat (q + i))), .val (.int (Int32.ofNat len)), .val (.int (Int32.ofNat i)), .val (.int (cv A (o + i)))] [.int (lo8 (cv A (o + i))), .int (Int32.ofNat (q + i)), .ref d])) rfl (rest := []) rfl (hb hbytes d31)
      have c8 : Steps p.tables e below (s₁.setTop (entryFrame m #[.ref b, .int (Int32.ofNat o), .ref d, .int (Int32.ofNat q), .int (Int32.ofNat len)] 7)) (T7.setTop (mkF m 32 #[.val (.ref b), .val (.int (Int32.ofNat (o + i))), .val (.ref d), .val (.int (Int32.ofNat (q + i))), .val (.int (Int32.ofNat len)), .val (.int (Int32.ofNat i)), .val (.int (cv A (o + i)))] [])) := c6.trans (st7 _ (Steps.refl _))
      have c9 : Steps p.tables e below (s₁.setTop (entryFrame m #[.ref b, .int (Int32.ofNat o), .ref d, .int (Int32.ofNat q), .int (Int32.ofNat len)] 7)) (T7.setTop (mkF m 3 #[.val (.ref b), .val (.int (Int32.ofNat (o + i) + 1)), .val (.ref d), .val (.int (Int32.ofNat (q + i) + 1)), .val (.int (Int32.ofNat len)), .val (.int (Int32.ofNat i + 1)), .val (.int (cv A (o + i)))] [])) := c8.trans (by
        refine iincV X7.here hexec rfl 1 (hb hbytes d32) (by decide) rfl rfl ?_
        refine iincV X7.here hexec rfl 1 (hb hbytes d35) (by decide) rfl rfl ?_
        refine iincV X7.here hexec rfl 1 (hb hbytes d38) (by decide) rfl rfl ?_
        refine XS.goto X7.here hexec rfl (pc0 := 41) rfl (hb hbytes d41) (by decide) rfl ?_
        exact Steps.refl _)
      have c10 : Steps p.tables e below (s₁.setTop (entryFrame m #[.ref b, .int (Int32.ofNat o), .ref d, .int (Int32.ofNat q), .int (Int32.ofNat len)] 7)) (T7.setTop (mkF m 3 #[.val (.ref b), .val (.int (Int32.ofNat (o + (i + 1)))), .val (.ref d), .val (.int (Int32.ofNat (q + (i + 1)))), .val (.int (Int32.ofNat len)), .val (.int (Int32.ofNat (i + 1))), .val (.int (cv A (o + i)))] [])) := by
        have := c9
        rw [succ32, succ32, succ32] at this
        exact this
      exact ih (i + 1) (by omega) _ (Or.inr ⟨_, rfl, rfl⟩) T7 _ (by rw [copyLocs_step, ← List.append_assoc]; exact X7) (pl.trans p7) (fl.step (by omega) hlt (by simp)) c10
  obtain ⟨T9, B9, z9, X9, p9, f9, g9⟩ := loop len 0 (by omega) .unset (Or.inl rfl) s₁ B (by simpa [copyLocs] using X0) ⟨hB0.1, fun _ _ => rfl, rfl⟩ (Laid.zero _ _ _) c2
  have c11 : Steps p.tables e below (s₁.setTop (entryFrame m #[.ref b, .int (Int32.ofNat o), .ref d, .int (Int32.ofNat q), .int (Int32.ofNat len)] 7)) (T9.setTop (mkF m 46 #[.val (.ref b), .val (.int (Int32.ofNat (o + len))), .val (.ref d), .val (.int (Int32.ofNat (q + len))), .val (.int (Int32.ofNat len)), .val (.int (Int32.ofNat len)), z9] [.int (Int32.ofNat len)])) := g9.trans (by
    refine XS.iload X9.here hexec rfl (hb hbytes d3) rfl ?_
    refine XS.iload X9.here hexec rfl (hb hbytes d5) rfl ?_
    refine XS.icmpYes X9.here hexec rfl (pc0 := 7) rfl (hb hbytes d7) rfl (ii_ge_t (nlt32 (by omega) (Nat.le_refl _))) (by decide) rfl ?_
    refine XS.iload X9.here hexec rfl (hb hbytes d44) rfl ?_
    exact Steps.refl _)
  exact ⟨T9, some (.int (Int32.ofNat len)), _, _, _, X9, by simp, rfl, rfl, (fun h => by cases h), ⟨rfl, B9, p9.from hh0, f9⟩, fun fs hl => c11.trans (X9.ireturnOut hexec hret rfl (Or.inl rfl) (hb hbytes d46) hl)⟩
end Cmp5
namespace Cmp3
def yN : MethodName := ⟨"java/lang/StringUTF16", "compress", "([CII)[B"⟩
abbrev yB : ByteArray := jdk_52_method_16_code
theorem d0 : decode yB 0 = .ok (.iload_n 2, 1) := by decide +kernel
theorem d1 : decode yB 1 = .ok (.newarray .byte, 2) := by decide +kernel
theorem d3 : decode yB 3 = .ok (.astore_n 3, 1) := by decide +kernel
theorem d4 : decode yB 4 = .ok (.aload_n 0, 1) := by decide +kernel
theorem d5 : decode yB 5 = .ok (.iload_n 1, 1) := by decide +kernel
theorem d6 : decode yB 6 = .ok (.aload_n 3, 1) := by decide +kernel
theorem d7 : decode yB 7 = .ok (.iconst 0, 1) := by decide +kernel
theorem d8 : decode yB 8 = .ok (.iload_n 2, 1) := by decide +kernel
theorem d9 : decode yB 9 = .ok (.invokestatic 115, 3) := by decide +kernel
theorem d12 : decode yB 12 = .ok (.istore 4, 2) := by decide +kernel
theorem d14 : decode yB 14 = .ok (.iload 4, 2) := by decide +kernel
theorem d16 : decode yB 16 = .ok (.iload_n 2, 1) := by decide +kernel
theorem d17 : decode yB 17 = .ok (.if_icmp (.eq) 40, 3) := by decide +kernel
theorem d57 : decode yB 57 = .ok (.aload_n 3, 1) := by decide +kernel
theorem d58 : decode yB 58 = .ok (.areturn, 1) := by decide +kernel
def site : List Cond := [.arrayClass .byte, Cmp5.tab] ++ staticW U16 115 Cmp5.yN
def tab : Cond := tabOf yN yB 6 (some (.array .byte)) site
def P (b : Addr) (A : Cell) (o len : Nat) (args : Array Value) (s : State) : Prop := args = #[.ref b, .int (Int32.ofNat o), .int (Int32.ofNat len)] ∧ Ch b A s ∧ o + len ≤ A.slots.size ∧ len ≤ 536870912 ∧ ∀ i, i < len → ¬ 255 < cv A (o + i)
def E (b : Addr) (A : Cell) (o len : Nat) (r : Option Value) (s u : State) : Prop := NewArr .byte "[B" len (fun j => .int (lo8 (cv A (o + j)))) r s u ∧ u.heap.size = s.heap.size + 1
/-- no char of the range above 255: a new byte[] of their low bytes -/
theorem law (l : Launch) (b : Addr) (A : Cell) (o len : Nat) : Law l yN 3 3 1 18 yB 6 (some (.array .byte)) site (P b A o len) (E b A o len) [] 1 len := by
  refine Law.of_walk (plainFor_of_name (by decide +kernel)) (by decide +kernel) (by decide +kernel) (by decide) (fun _ _ h => by rw [h.1]; rfl) (fun _ U U' hal hh h => ⟨h.1, h.2.1.mv hal hh, h.2.2⟩) (fun r U U' V V' h1 hal h2 h => ⟨NewArr.mv r U U' V V' h1 hal h2 h.1, by rw [h1, h2]; exact h.2⟩) ?_
  intro p e s m args below meth c s₁ X0 hexec hbytes hml hret hlk hnm hown hh0 W hP
  obtain ⟨rfl, hA, l1, l2, hp⟩ := hP
  have a31 := hA.1.2.2.2
  have c1 : Steps p.tables e below (s₁.setTop (entryFrame m #[.ref b, .int (Int32.ofNat o), .int (Int32.ofNat len)] 6)) (s₁.setTop (mkF m 0 #[.val (.ref b), .val (.int (Int32.ofNat o)), .val (.int (Int32.ofNat len)), .unset, .unset, .unset] [])) := entry rfl
  have c2 : Steps p.tables e below (s₁.setTop (entryFrame m #[.ref b, .int (Int32.ofNat o), .int (Int32.ofNat len)] 6)) (s₁.setTop (mkF m 1 #[.val (.ref b), .val (.int (Int32.ofNat o)), .val (.int (Int32.ofNat len)), .unset, .unset, .unset] [.int (Int32.ofNat len)])) := c1.trans (by
    refine XS.iloadN X0.here hexec rfl (hb hbytes d0) rfl ?_
    exact Steps.refl _)
  obtain ⟨T3, B3, X3, ba3, bs3, bv3, bh3, bf3, st3⟩ := X0.anew hexec (atype := .byte) (wk W (.arrayClass .byte)) rfl (by show len * 1 ≤ _; omega) (by omega) (g := (mkF m 1 #[.val (.ref b), .val (.int (Int32.ofNat o)), .val (.int (Int32.ofNat len)), .unset, .unset, .unset] [.int (Int32.ofNat len)])) rfl (hb hbytes d1) (rest := []) rfl (Nat.le_refl _) (by show 0 + len ≤ len; omega)
  rw [hh0] at ba3 st3
  have kp3 : XT.Kept s T3 := (XT.Kept.of_eq hh0).push bh3
  have hA3 := hA.keep X3.warmed.alike (kp3 _ _ hA.1.1)
  have hne : b ≠ s.heap.size := hA.1.ne
  have c4 : Steps p.tables e below (s₁.setTop (entryFrame m #[.ref b, .int (Int32.ofNat o), .int (Int32.ofNat len)] 6)) (T3.setTop (mkF m 3 #[.val (.ref b), .val (.int (Int32.ofNat o)), .val (.int (Int32.ofNat len)), .unset, .unset, .unset] [.ref s.heap.size])) := c2.trans (st3 _ (Steps.refl _))
  have c5 : Steps p.tables e below (s₁.setTop (entryFrame m #[.ref b, .int (Int32.ofNat o), .int (Int32.ofNat len)] 6)) (T3.setTop (mkF m 9 #[.val (.ref b), .val (.int (Int32.ofNat o)), .val (.int (Int32.ofNat len)), .val (.ref s.heap.size), .unset, .unset] [.int (Int32.ofNat len), .int 0, .ref s.heap.size, .int (Int32.ofNat o), .ref b])) := c4.trans (by
    refine XS.astoreN X3.here hexec rfl (hb hbytes d3) rfl rfl rfl ?_
    refine XS.aloadN X3.here hexec rfl (hb hbytes d4) rfl rfl ?_
    refine XS.iloadN X3.here hexec rfl (hb hbytes d5) rfl ?_
    refine XS.aloadN X3.here hexec rfl (hb hbytes d6) rfl rfl ?_
    refine iconstV X3.here hexec rfl 0 (hb hbytes d7) (by decide) ?_
    refine XS.iloadN X3.here hexec rfl (hb hbytes d8) rfl ?_
    exact Steps.refl _)
  obtain ⟨v6, T6, X6, E6, g6⟩ := X3.callS hexec (Cmp5.law l b A s.heap.size B3 o 0 len) hown (wks W (staticW U16 115 Cmp5.yN)) (wk W Cmp5.tab) (W := 0) (Nat.le_of_ble_eq_true rfl) (Nat.le_of_ble_eq_true rfl) (Nat.le_refl _) (by show 0 + len + 0 ≤ len; omega) (g := (mkF m 9 #[.val (.ref b), .val (.int (Int32.ofNat o)), .val (.int (Int32.ofNat len)), .val (.ref s.heap.size), .unset, .unset] [.int (Int32.ofNat len), .int (Int32.ofNat 0), .ref s.heap.size, .int (Int32.ofNat o), .ref b])) rfl (by rw [hml]; rfl) c5 (argsL := [.ref b, .int (Int32.ofNat o), .ref s.heap.size, .int (Int32.ofNat 0), .int (Int32.ofNat len)]) (rest := []) rfl rfl (by show 2 * 0 + 0 ≤ _; decide) (hb hbytes d9) (⟨rfl, hA3, ba3, hne, l1, by rw [bs3]; simp, hp⟩)
  obtain ⟨rfl, B6, p6, f6⟩ := E6
  have c7 : Steps p.tables e below (s₁.setTop (entryFrame m #[.ref b, .int (Int32.ofNat o), .int (Int32.ofNat len)] 6)) (T6.setTop (mkF m 12 #[.val (.ref b), .val (.int (Int32.ofNat o)), .val (.int (Int32.ofNat len)), .val (.ref s.heap.size), .unset, .unset] [.int (Int32.ofNat len)])) := g6
  have c8 : Steps p.tables e below (s₁.setTop (entryFrame m #[.ref b, .int (Int32.ofNat o), .int (Int32.ofNat len)] 6)) (T6.setTop (mkF m 58 #[.val (.ref b), .val (.int (Int32.ofNat o)), .val (.int (Int32.ofNat len)), .val (.ref s.heap.size), .val (.int (Int32.ofNat len)), .unset] [.ref s.heap.size])) := c7.trans (by
    refine XS.istore X6.here hexec rfl (hb hbytes d12) rfl rfl ?_
    refine XS.iload X6.here hexec rfl (hb hbytes d14) rfl ?_
    refine XS.iloadN X6.here hexec rfl (hb hbytes d16) rfl ?_
    refine XS.icmpYes X6.here hexec rfl (pc0 := 17) rfl (hb hbytes d17) rfl (ii_eq_t rfl) (by decide) rfl ?_
    refine XS.aloadN X6.here hexec rfl (hb hbytes d57) rfl rfl ?_
    exact Steps.refl _)
  have X8 := X6.wide (L' := []) (cells' := 1) (slots' := len) (fun x hx hlt => by
    simp only [List.nil_append, copyLocs, List.mem_map, List.mem_range] at hx
    obtain ⟨i, -, rfl⟩ := hx
    exact absurd hlt (Nat.lt_irrefl _)) (Nat.le_refl _) (by omega)
  exact ⟨T6, some (.ref s.heap.size), _, _, _, X8, rfl, rfl, rfl, (fun h => by cases h), ⟨⟨rfl, B6, ba3.like (X3.warmed.alike.symm.trans X6.warmed.alike) p6.1 f6.1 f6.2.1 f6.2.2.1, f6.2.1.trans bv3, by rw [X6.warmed.alike.findClass, f6.1]; exact bf3, by rw [f6.2.2.1, bs3]; simp, fun j hj => by rw [f6.2.2.2 j, if_pos (by omega)]; rfl, kp3.put p6 (Nat.le_refl _)⟩, by rw [p6.2.2, bh3, hh0]; simp⟩, fun fs hl => c8.trans (X8.areturnOut hexec rfl hret rfl (hb hbytes d58) hl)⟩
end Cmp3
namespace CodL
def yN : MethodName := ⟨"java/lang/StringUTF16", "coderFromArrayLen", "([BI)B"⟩
abbrev yB : ByteArray := jdk_52_method_15_code
theorem d0 : decode yB 0 = .ok (.iload_n 1, 1) := by decide +kernel
theorem d1 : decode yB 1 = .ok (.aload_n 0, 1) := by decide +kernel
theorem d2 : decode yB 2 = .ok (.arraylength, 1) := by decide +kernel
theorem d3 : decode yB 3 = .ok (.isub, 1) := by decide +kernel
theorem d4 : decode yB 4 = .ok (.bipush 31, 2) := by decide +kernel
theorem d6 : decode yB 6 = .ok (.iushr, 1) := by decide +kernel
theorem d7 : decode yB 7 = .ok (.i2b, 1) := by decide +kernel
theorem d8 : decode yB 8 = .ok (.ireturn, 1) := by decide +kernel
def site : List Cond := []
def tab : Cond := tabOf yN yB 2 (some .byte) site
def P (d : Addr) (B : Cell) (args : Array Value) (s : State) : Prop := args = #[.ref d, .int (Int32.ofNat B.slots.size)] ∧ Arr .byte d B s
def E (r : Option Value) (s u : State) : Prop := XT.PureE (some (.int 0)) r s u
/-- an array as long as the number of chars: LATIN1 -/
theorem law (l : Launch) (d : Addr) (B : Cell) : Law l yN 2 2 0 0 yB 2 (some .byte) site (P d B) E [] 0 0 := by
  refine Law.of_walk (plainFor_of_name (by decide +kernel)) (by decide +kernel) (by decide +kernel) (by decide) (fun _ _ h => by rw [h.1]; rfl) (fun _ U U' hal hh h => ⟨h.1, h.2.mv hal hh⟩) (fun r U U' V V' h1 hal h2 h => XT.PureE.mv r U U' V V' h1 hal h2 h) ?_
  intro p e s m args below meth c s₁ X0 hexec hbytes hml hret hlk hnm hown hh0 W hP
  obtain ⟨rfl, hB⟩ := hP
  have hB0 := hB.mv X0.warmed.alike hh0
  have c1 : Steps p.tables e below (s₁.setTop (entryFrame m #[.ref d, .int (Int32.ofNat B.slots.size)] 2)) (s₁.setTop (mkF m 0 #[.val (.ref d), .val (.int (Int32.ofNat B.slots.size))] [])) := entry rfl
  have c2 : Steps p.tables e below (s₁.setTop (entryFrame m #[.ref d, .int (Int32.ofNat B.slots.size)] 2)) (s₁.setTop (mkF m 2 #[.val (.ref d), .val (.int (Int32.ofNat B.slots.size))] [.ref d, .int (Int32.ofNat B.slots.size)])) := c1.trans (by
    refine XS.iloadN X0.here hexec rfl (hb hbytes d0) rfl ?_
    refine XS.aloadN X0.here hexec rfl (hb hbytes d1) rfl rfl ?_
    exact Steps.refl _)
  have c3 : Steps p.tables e below (s₁.setTop (entryFrame m #[.ref d, .int (Int32.ofNat B.slots.size)] 2)) (s₁.setTop (mkF m 8 #[.val (.ref d), .val (.int (Int32.ofNat B.slots.size))] [.int (lo8 (ushr (Int32.ofNat B.slots.size - Int32.ofNat B.slots.size) 31))])) := c2.trans (by
    refine X0.alen hexec hB0 rfl rfl (hb hbytes d2) ?_
    refine XS.isub X0.here hexec rfl (hb hbytes d3) rfl ?_
    refine bipushV X0.here hexec rfl 31 (hb hbytes d4) (by decide) ?_
    refine iushr X0.here hexec rfl (hb hbytes d6) rfl ?_
    refine i2b X0.here hexec rfl (hb hbytes d7) rfl ?_
    exact Steps.refl _)
  have e0 : lo8 (ushr (Int32.ofNat B.slots.size - Int32.ofNat B.slots.size) 31) = 0 := by rw [Int32.sub_self]; decide
  rw [e0] at c3
  exact ⟨s₁, some (.int 0), _, _, _, X0, rfl, rfl, rfl, (fun h => by cases h), ⟨rfl, hh0⟩, fun fs hl => c3.trans (X0.ireturnOut hexec hret rfl (Or.inr (Or.inr (Or.inl rfl))) (hb hbytes d8) hl)⟩
end CodL
/-- the String at a is Latin-1 over a new byte[] (the heap's one new cell): the low bytes of the len chars of A from o on; every cell but a is kept -/
def Got (a : Addr) (D : Cell) (fV fC : Field) (A : Cell) (o len : Nat) (r : Option Value) (s u : State) : Prop := r = none ∧ ∃ D' V : Cell, Blank "java/lang/String" a D' u ∧ Same D D' [fV.slot, fC.slot] ∧ D'.slots[fV.slot]? = some (.ref s.heap.size) ∧ D'.slots[fC.slot]? = some (.int 0) ∧ Arr .byte s.heap.size V u ∧ V.vm = .none ∧ u.vm.findClass "[B" = some V.cls ∧ V.slots.size = len ∧ (∀ j, j < len → V.slots[j]? = some (.int (lo8 (cv A (o + j))))) ∧ (∀ (y : Addr) (c : Cell), y ≠ a → s.heap[y]? = some c → u.heap[y]? = some c) ∧ u.heap.size = s.heap.size + 1
theorem Got.mv {a : Addr} {D A : Cell} {fV fC : Field} {o len : Nat} : ∀ r (U U' V V' : State), U'.heap = U.heap → V.vm.Alike V'.vm → V'.heap = V.heap → Got a D fV fC A o len r U V → Got a D fV fC A o len r U' V' :=
  fun r U U' V V' h1 hal h2 ⟨e0, D', X, a1, a2, a3, a4, a5, a6, a7, a8, a9, a10, a11⟩ => ⟨e0, D', X, a1.mv hal h2, a2, by rw [h1]; exact a3, a4, by rw [h1]; exact a5.mv hal h2, a6, by rw [hal.findClass]; exact a7, a8, a9, by rw [h1, h2]; exact a10, by rw [h1, h2]; exact a11⟩
namespace New4
def yN : MethodName := ⟨"java/lang/String", "<init>", "([CIILjava/lang/Void;)V"⟩
abbrev yB : ByteArray := jdk_42_method_149_code
theorem d0 : decode yB 0 = .ok (.aload_n 0, 1) := by decide +kernel
theorem d1 : decode yB 1 = .ok (.invokespecial 1, 3) := by decide +kernel
theorem d4 : decode yB 4 = .ok (.iload_n 3, 1) := by decide +kernel
theorem d5 : decode yB 5 = .ok (.ifCond (.ne) 22, 3) := by decide +kernel
theorem d27 : decode yB 27 = .ok (.getstatic 38, 3) := by decide +kernel
theorem d30 : decode yB 30 = .ok (.ifCond (.eq) 28, 3) := by decide +kernel
theorem d33 : decode yB 33 = .ok (.aload_n 1, 1) := by decide +kernel
theorem d34 : decode yB 34 = .ok (.iload_n 2, 1) := by decide +kernel
theorem d35 : decode yB 35 = .ok (.iload_n 3, 1) := by decide +kernel
theorem d36 : decode yB 36 = .ok (.invokestatic 177, 3) := by decide +kernel
theorem d39 : decode yB 39 = .ok (.astore 5, 2) := by decide +kernel
theorem d41 : decode yB 41 = .ok (.aload_n 0, 1) := by decide +kernel
theorem d42 : decode yB 42 = .ok (.aload 5, 2) := by decide +kernel
theorem d44 : decode yB 44 = .ok (.iload_n 3, 1) := by decide +kernel
theorem d45 : decode yB 45 = .ok (.invokestatic 47, 3) := by decide +kernel
theorem d48 : decode yB 48 = .ok (.putfield 15, 3) := by decide +kernel
theorem d51 : decode yB 51 = .ok (.aload_n 0, 1) := by decide +kernel
theorem d52 : decode yB 52 = .ok (.aload 5, 2) := by decide +kernel
theorem d54 : decode yB 54 = .ok (.putfield 9, 3) := by decide +kernel
theorem d57 : decode yB 57 = .ok (.return_, 1) := by decide +kernel
def site : List Cond := [.fieldLink "java/lang/String" 38 "java/lang/String" "COMPACT_STRINGS" "Z", Cmp3.tab, CodL.tab, .laysFinal "java/lang/String" "java/lang/String" "value" "[B", .fieldLink "java/lang/String" 9 "java/lang/String" "value" "[B", .laysFinal "java/lang/String" "java/lang/String" "coder" "B", .fieldLink "java/lang/String" 15 "java/lang/String" "coder" "B"] ++ objW "java/lang/String" 1 ++ staticW "java/lang/String" 177 Cmp3.yN ++ staticW "java/lang/String" 47 CodL.yN
def tab : Cond := tabOf yN yB 6 none site
def P (a : Addr) (D : Cell) (fV fC : Field) (b : Addr) (A : Cell) (z : Int32) (o len : Nat) (args : Array Value) (s : State) : Prop := args = #[.ref a, .ref b, .int (Int32.ofNat o), .int (Int32.ofNat len), .null] ∧ Blank "java/lang/String" a D s ∧ Found "java/lang/String" "value" "[B" fV s ∧ Found "java/lang/String" "coder" "B" fC s ∧ Ch b A s ∧ StaticIs s "java/lang/String" "COMPACT_STRINGS" "Z" (.int z) ∧ ¬ z = 0 ∧ 0 < len ∧ o + len ≤ A.slots.size ∧ len ≤ 536870912 ∧ ∀ i, i < len → ¬ 255 < cv A (o + i)
def E (a : Addr) (D : Cell) (fV fC : Field) (A : Cell) (o len : Nat) (r : Option Value) (s u : State) : Prop := Got a D fV fC A o len r s u
/-- len > 0, no char of the range above 255: a Latin-1 String of their low bytes -/
theorem law (l : Launch) (a : Addr) (D : Cell) (fV fC : Field) (b : Addr) (A : Cell) (z : Int32) (o len : Nat) : Law l yN 5 4 2 35 yB 6 none site (P a D fV fC b A z o len) (E a D fV fC A o len) [⟨a, fC.slot⟩, ⟨a, fV.slot⟩] 1 len := by
  refine Law.of_walk (plainFor_of_name (by decide +kernel)) (by decide +kernel) (by decide +kernel) (by decide) (fun _ _ h => by rw [h.1]; rfl) (fun _ U U' hal hh h => ⟨h.1, h.2.1.mv hal hh, h.2.2.1.al hal, h.2.2.2.1.al hal, h.2.2.2.2.1.mv hal hh, h.2.2.2.2.2.1.there hal hh, h.2.2.2.2.2.2⟩) (fun r U U' V V' h1 hal h2 h => Got.mv r U U' V V' h1 hal h2 h) ?_
  intro p e s m args below meth c s₁ X0 hexec hbytes hml hret hlk hnm hown hh0 W hP
  obtain ⟨rfl, hB, f1, f2, hA, s1, hz, l0, l1, l2, hp⟩ := hP
  have a31 := hA.1.2.2.2
  have c1 : Steps p.tables e below (s₁.setTop (entryFrame m #[.ref a, .ref b, .int (Int32.ofNat o), .int (Int32.ofNat len), .null] 6)) (s₁.setTop (mkF m 0 #[.val (.ref a), .val (.ref b), .val (.int (Int32.ofNat o)), .val (.int (Int32.ofNat len)), .val .null, .unset] [])) := entry rfl
  have c2 : Steps p.tables e below (s₁.setTop (entryFrame m #[.ref a, .ref b, .int (Int32.ofNat o), .int (Int32.ofNat len), .null] 6)) (s₁.setTop (mkF m 1 #[.val (.ref a), .val (.ref b), .val (.int (Int32.ofNat o)), .val (.int (Int32.ofNat len)), .val .null, .unset] [.ref a])) := c1.trans (by
    refine XS.aloadN X0.here hexec rfl (hb hbytes d0) rfl rfl ?_
    exact Steps.refl _)
  obtain ⟨T3, X3, q3, st3⟩ := X0.oinit hexec hown (wks W (objW "java/lang/String" 1)) (g := (mkF m 1 #[.val (.ref a), .val (.ref b), .val (.int (Int32.ofNat o)), .val (.int (Int32.ofNat len)), .val .null, .unset] [.ref a])) rfl (by rw [hml]; rfl) (rest := []) rfl (hb hbytes d1) (W := 0) (by show 2 * 0 + 0 ≤ _; decide) (Nat.le_of_ble_eq_true rfl) (Nat.le_of_ble_eq_true rfl)
  have hh3 := q3.trans hh0
  have c4 : Steps p.tables e below (s₁.setTop (entryFrame m #[.ref a, .ref b, .int (Int32.ofNat o), .int (Int32.ofNat len), .null] 6)) (T3.setTop (mkF m 27 #[.val (.ref a), .val (.ref b), .val (.int (Int32.ofNat o)), .val (.int (Int32.ofNat len)), .val .null, .unset] [])) := (c2.trans (st3 _ (Steps.refl _))).trans (by
    refine XS.iloadN X3.here hexec rfl (hb hbytes d4) rfl ?_
    refine XS.ifYes X3.here hexec rfl (pc0 := 5) rfl (hb hbytes d5) rfl (i0_ne_t (nz32 (by omega) l0)) (by decide) rfl ?_
    exact Steps.refl _)
  obtain ⟨T5, X5, q5, st5⟩ := X3.sget hexec hown (wk W (.fieldLink "java/lang/String" 38 "java/lang/String" "COMPACT_STRINGS" "Z")) s1 (fun _ _ h => by rw [hh3]; exact h) (g := (mkF m 27 #[.val (.ref a), .val (.ref b), .val (.int (Int32.ofNat o)), .val (.int (Int32.ofNat len)), .val .null, .unset] [])) rfl (hb hbytes d27)
  have hh5 := q5.trans hh3
  have c6 : Steps p.tables e below (s₁.setTop (entryFrame m #[.ref a, .ref b, .int (Int32.ofNat o), .int (Int32.ofNat len), .null] 6)) (T5.setTop (mkF m 30 #[.val (.ref a), .val (.ref b), .val (.int (Int32.ofNat o)), .val (.int (Int32.ofNat len)), .val .null, .unset] [.int z])) := c4.trans (st5 _ (Steps.refl _))
  have c7 : Steps p.tables e below (s₁.setTop (entryFrame m #[.ref a, .ref b, .int (Int32.ofNat o), .int (Int32.ofNat len), .null] 6)) (T5.setTop (mkF m 36 #[.val (.ref a), .val (.ref b), .val (.int (Int32.ofNat o)), .val (.int (Int32.ofNat len)), .val .null, .unset] [.int (Int32.ofNat len), .int (Int32.ofNat o), .ref b])) := c6.trans (by
    refine XS.ifNo X5.here hexec rfl (hb hbytes d30) rfl (i0_eq_f hz) ?_
    refine XS.aloadN X5.here hexec rfl (hb hbytes d33) rfl rfl ?_
    refine XS.iloadN X5.here hexec rfl (hb hbytes d34) rfl ?_
    refine XS.iloadN X5.here hexec rfl (hb hbytes d35) rfl ?_
    exact Steps.refl _)
  obtain ⟨v8, T8, X8, E8, g8⟩ := X5.callS hexec (Cmp3.law l b A o len) hown (wks W (staticW "java/lang/String" 177 Cmp3.yN)) (wk W Cmp3.tab) (W := 0) (Nat.le_of_ble_eq_true rfl) (Nat.le_of_ble_eq_true rfl) (Nat.le_refl _) (by show 0 + len ≤ len; omega) (g := (mkF m 36 #[.val (.ref a), .val (.ref b), .val (.int (Int32.ofNat o)), .val (.int (Int32.ofNat len)), .val .null, .unset] [.int (Int32.ofNat len), .int (Int32.ofNat o), .ref b])) rfl (by rw [hml]; rfl) c7 (argsL := [.ref b, .int (Int32.ofNat o), .int (Int32.ofNat len)]) (rest := []) rfl rfl (by show 2 * 0 + 0 ≤ _; decide) (hb hbytes d36) (⟨rfl, hA.mv X5.warmed.alike hh5, l1, l2, hp⟩)
  obtain ⟨e8, z8⟩ := E8
  obtain ⟨rfl, N, n1, n2, n3, n4, n5, n6⟩ := NewArr.mv _ T5 s _ _ hh5.symm (Vm.Alike.refl _) rfl e8
  rw [hh5] at z8
  have hB1 := hB.keep X8.warmed.alike (n6 _ _ hB.1)
  have hne : s.heap.size ≠ a := (Nat.ne_of_lt (Array.getElem?_eq_some_iff.mp hB.1).1).symm
  have c9 : Steps p.tables e below (s₁.setTop (entryFrame m #[.ref a, .ref b, .int (Int32.ofNat o), .int (Int32.ofNat len), .null] 6)) (T8.setTop (mkF m 39 #[.val (.ref a), .val (.ref b), .val (.int (Int32.ofNat o)), .val (.int (Int32.ofNat len)), .val .null, .unset] [.ref s.heap.size])) := g8
  have c10 : Steps p.tables e below (s₁.setTop (entryFrame m #[.ref a, .ref b, .int (Int32.ofNat o), .int (Int32.ofNat len), .null] 6)) (T8.setTop (mkF m 45 #[.val (.ref a), .val (.ref b), .val (.int (Int32.ofNat o)), .val (.int (Int32.ofNat len)), .val .null, .val (.ref s.heap.size)] [.int (Int32.ofNat N.slots.size), .ref s.heap.size, .ref a])) := by
    have hc : Steps p.tables e below (s₁.setTop (entryFrame m #[.ref a, .ref b, .int (Int32.ofNat o), .int (Int32.ofNat len), .null] 6)) (T8.setTop (mkF m 45 #[.val (.ref a), .val (.ref b), .val (.int (Int32.ofNat o)), .val (.int (Int32.ofNat len)), .val .null, .val (.ref s.heap.size)] [.int (Int32.ofNat len), .ref s.heap.size, .ref a])) := c9.trans (by
      refine XS.astore X8.here hexec rfl (hb hbytes d39) rfl rfl rfl ?_
      refine XS.aloadN X8.here hexec rfl (hb hbytes d41) rfl rfl ?_
      refine XS.aload X8.here hexec rfl (hb hbytes d42) rfl rfl ?_
      refine XS.iloadN X8.here hexec rfl (hb hbytes d44) rfl ?_
      exact Steps.refl _)
    rw [n4]; exact hc
  obtain ⟨v11, T11, X11, E11, g11⟩ := X8.callS hexec (CodL.law l s.heap.size N) hown (wks W (staticW "java/lang/String" 47 CodL.yN)) (wk W CodL.tab) (W := 1) (Nat.le_of_ble_eq_true rfl) (Nat.le_of_ble_eq_true rfl) (Nat.le_refl _) (by show 0 + len + 0 ≤ len; omega) (g := (mkF m 45 #[.val (.ref a), .val (.ref b), .val (.int (Int32.ofNat o)), .val (.int (Int32.ofNat len)), .val .null, .val (.ref s.heap.size)] [.int (Int32.ofNat N.slots.size), .ref s.heap.size, .ref a])) rfl (by rw [hml]; rfl) c10 (argsL := [.ref s.heap.size, .int (Int32.ofNat N.slots.size)]) (rest := [.ref a]) rfl rfl (by show 2 * 0 + (1 + 0) ≤ _; decide) (hb hbytes d45) (⟨rfl, n1⟩)
  obtain ⟨rfl, q11⟩ := E11
  have hB11 := hB1.mv (X8.warmed.alike.symm.trans X11.warmed.alike) q11
  have c12 : Steps p.tables e below (s₁.setTop (entryFrame m #[.ref a, .ref b, .int (Int32.ofNat o), .int (Int32.ofNat len), .null] 6)) (T11.setTop (mkF m 48 #[.val (.ref a), .val (.ref b), .val (.int (Int32.ofNat o)), .val (.int (Int32.ofNat len)), .val .null, .val (.ref s.heap.size)] [.int 0, .ref a])) := g11
  obtain ⟨T13, X13, p13, bl13, sl13, st13⟩ := X11.finit hexec hown (wk W (.fieldLink "java/lang/String" 15 "java/lang/String" "coder" "B")) (Or.inr ⟨_, (wk W (.laysFinal "java/lang/String" "java/lang/String" "coder" "B"))⟩) (Or.inl ⟨rfl, hnm⟩) f2 (Or.inl rfl) hB11 (t := .byte) (by decide +kernel) rfl (g := (mkF m 48 #[.val (.ref a), .val (.ref b), .val (.int (Int32.ofNat o)), .val (.int (Int32.ofNat len)), .val .null, .val (.ref s.heap.size)] [.int 0, .ref a])) rfl (rest := []) rfl (hb hbytes d48)
  have c14 : Steps p.tables e below (s₁.setTop (entryFrame m #[.ref a, .ref b, .int (Int32.ofNat o), .int (Int32.ofNat len), .null] 6)) (T13.setTop (mkF m 54 #[.val (.ref a), .val (.ref b), .val (.int (Int32.ofNat o)), .val (.int (Int32.ofNat len)), .val .null, .val (.ref s.heap.size)] [.ref s.heap.size, .ref a])) := (c12.trans (st13 _ (Steps.refl _))).trans (by
    refine XS.aloadN X13.here hexec rfl (hb hbytes d51) rfl rfl ?_
    refine XS.aload X13.here hexec rfl (hb hbytes d52) rfl rfl ?_
    exact Steps.refl _)
  obtain ⟨T15, X15, p15, bl15, sl15, st15⟩ := X13.finit hexec hown (wk W (.fieldLink "java/lang/String" 9 "java/lang/String" "value" "[B")) (Or.inr ⟨_, (wk W (.laysFinal "java/lang/String" "java/lang/String" "value" "[B"))⟩) (Or.inl ⟨rfl, hnm⟩) f1 (Or.inl rfl) bl13 (t := (.array .byte)) (by decide +kernel) rfl (g := (mkF m 54 #[.val (.ref a), .val (.ref b), .val (.int (Int32.ofNat o)), .val (.int (Int32.ofNat len)), .val .null, .val (.ref s.heap.size)] [.ref s.heap.size, .ref a])) rfl (rest := []) rfl (hb hbytes d54)
  have c16 : Steps p.tables e below (s₁.setTop (entryFrame m #[.ref a, .ref b, .int (Int32.ofNat o), .int (Int32.ofNat len), .null] 6)) (T15.setTop (mkF m 57 #[.val (.ref a), .val (.ref b), .val (.int (Int32.ofNat o)), .val (.int (Int32.ofNat len)), .val .null, .val (.ref s.heap.size)] [])) := c14.trans (st15 _ (Steps.refl _))
  have ap := apart (Or.inr ⟨_, (wk W (.laysFinal "java/lang/String" "java/lang/String" "value" "[B"))⟩) (Or.inr ⟨_, (wk W (.laysFinal "java/lang/String" "java/lang/String" "coder" "B"))⟩) f1 f2 (t₁ := .array .byte) (t₂ := .byte) (by decide +kernel) (by decide +kernel) (by decide)
  have al := X8.warmed.alike.symm.trans X15.warmed.alike
  have n7 : T11.heap[s.heap.size]? = some N := by rw [q11]; exact n1.1
  exact ⟨T15, none, _, _, _, X15, by simp, rfl, by omega, (fun _ => rfl), ⟨rfl, _, N, bl15, ((Same.refl D _).set _ (by simp)).set _ (by simp), sl15, (Cell.slots_setSlot_ne _ ap).trans sl13, n1.keep al (p15.other hne (p13.other hne n7)), n2, by rw [al.findClass]; exact n3, n4, n5, fun y c h1 h2 => p15.other h1 (p13.other h1 (by rw [q11]; exact n6 y c h2)), by rw [p15.2.2, p13.2.2, q11]; exact z8⟩, fun fs hl => c16.trans (X15.returnOut hexec hret (hb hbytes d57) hl)⟩
end New4
namespace New1
def yN : MethodName := ⟨"java/lang/String", "<init>", "([C)V"⟩
abbrev yB : ByteArray := jdk_42_method_3_code
theorem d0 : decode yB 0 = .ok (.aload_n 0, 1) := by decide +kernel
theorem d1 : decode yB 1 = .ok (.aload_n 1, 1) := by decide +kernel
theorem d2 : decode yB 2 = .ok (.iconst 0, 1) := by decide +kernel
theorem d3 : decode yB 3 = .ok (.aload_n 1, 1) := by decide +kernel
theorem d4 : decode yB 4 = .ok (.arraylength, 1) := by decide +kernel
theorem d5 : decode yB 5 = .ok (.aconst_null, 1) := by decide +kernel
theorem d6 : decode yB 6 = .ok (.invokespecial 27, 3) := by decide +kernel
theorem d9 : decode yB 9 = .ok (.return_, 1) := by decide +kernel
def site : List Cond := [New4.tab] ++ initW "java/lang/String" 27 New4.yN
def tab : Cond := tabOf yN yB 2 none site
def P (a : Addr) (D : Cell) (fV fC : Field) (b : Addr) (A : Cell) (z : Int32) (args : Array Value) (s : State) : Prop := args = #[.ref a, .ref b] ∧ Blank "java/lang/String" a D s ∧ Found "java/lang/String" "value" "[B" fV s ∧ Found "java/lang/String" "coder" "B" fC s ∧ Ch b A s ∧ StaticIs s "java/lang/String" "COMPACT_STRINGS" "Z" (.int z) ∧ ¬ z = 0 ∧ 0 < A.slots.size ∧ A.slots.size ≤ 536870912 ∧ ∀ i, i < A.slots.size → ¬ 255 < cv A i
def E (a : Addr) (D : Cell) (fV fC : Field) (A : Cell) (r : Option Value) (s u : State) : Prop := Got a D fV fC A 0 A.slots.size r s u
/-- new String(chars), not empty, no char above 255: a Latin-1 String of their low bytes -/
theorem law (l : Launch) (a : Addr) (D : Cell) (fV fC : Field) (b : Addr) (A : Cell) (z : Int32) : Law l yN 2 1 3 52 yB 2 none site (P a D fV fC b A z) (E a D fV fC A) [⟨a, fC.slot⟩, ⟨a, fV.slot⟩] 1 A.slots.size := by
  refine Law.of_walk (plainFor_of_name (by decide +kernel)) (by decide +kernel) (by decide +kernel) (by decide) (fun _ _ h => by rw [h.1]; rfl) (fun _ U U' hal hh h => ⟨h.1, h.2.1.mv hal hh, h.2.2.1.al hal, h.2.2.2.1.al hal, h.2.2.2.2.1.mv hal hh, h.2.2.2.2.2.1.there hal hh, h.2.2.2.2.2.2⟩) (fun r U U' V V' h1 hal h2 h => Got.mv r U U' V V' h1 hal h2 h) ?_
  intro p e s m args below meth c s₁ X0 hexec hbytes hml hret hlk hnm hown hh0 W hP
  obtain ⟨rfl, hB, f1, f2, hA, s1, hz, l0, l2, hp⟩ := hP
  have c1 : Steps p.tables e below (s₁.setTop (entryFrame m #[.ref a, .ref b] 2)) (s₁.setTop (mkF m 0 #[.val (.ref a), .val (.ref b)] [])) := entry rfl
  have c2 : Steps p.tables e below (s₁.setTop (entryFrame m #[.ref a, .ref b] 2)) (s₁.setTop (mkF m 6 #[.val (.ref a), .val (.ref b)] [.null, .int (Int32.ofNat A.slots.size), .int 0, .ref b, .ref a])) := c1.trans (by
    refine XS.aloadN X0.here hexec rfl (hb hbytes d0) rfl rfl ?_
    refine XS.aloadN X0.here hexec rfl (hb hbytes d1) rfl rfl ?_
    refine iconstV X0.here hexec rfl 0 (hb hbytes d2) (by decide) ?_
    refine XS.aloadN X0.here hexec rfl (hb hbytes d3) rfl rfl ?_
    refine X0.alen hexec (hA.1.mv X0.warmed.alike hh0) rfl rfl (hb hbytes d4) ?_
    refine XS.aconstNull X0.here hexec rfl (hb hbytes d5) ?_
    exact Steps.refl _)
  obtain ⟨v3, T3, X3, E3, g3⟩ := X0.callN hexec (New4.law l a D fV fC b A z 0 A.slots.size) rfl hown (wks W (initW "java/lang/String" 27 New4.yN)) (W New4.tab (by simp only [site, List.mem_cons, List.mem_append, true_or, or_true])) (W := 0) (Nat.le_of_ble_eq_true rfl) (Nat.le_of_ble_eq_true rfl) (Nat.le_refl _) (by show 0 + A.slots.size ≤ A.slots.size; omega) (g := (mkF m 6 #[.val (.ref a), .val (.ref b)] [.null, .int (Int32.ofNat A.slots.size), .int (Int32.ofNat 0), .ref b, .ref a])) rfl (by rw [hml]; rfl) c2 (argsL := [.ref b, .int (Int32.ofNat 0), .int (Int32.ofNat A.slots.size), .null]) (rest := []) rfl rfl (by show 2 * 0 + 0 ≤ _; decide) (hb hbytes d6) (⟨rfl, hB.mv X0.warmed.alike hh0, f1.al X0.warmed.alike, f2.al X0.warmed.alike, hA.mv X0.warmed.alike hh0, s1.there X0.warmed.alike hh0, hz, l0, by omega, l2, fun i hi => by rw [Nat.zero_add]; exact hp i hi⟩)
  have e0 := Got.mv _ s₁ s _ _ hh0.symm (Vm.Alike.refl _) rfl E3
  obtain rfl := e0.1
  have c4 : Steps p.tables e below (s₁.setTop (entryFrame m #[.ref a, .ref b] 2)) (T3.setTop (mkF m 9 #[.val (.ref a), .val (.ref b)] [])) := g3
  exact ⟨T3, none, _, _, _, X3, by simp, rfl, by omega, (fun _ => rfl), e0, fun fs hl => c4.trans (X3.returnOut hexec hret (hb hbytes d9) hl)⟩
theorem pays {l : Launch} {R : Room} {p : Program} {e : Env} {below : List Frame} {s : State} {sargs : Array Value} {len W : Nat} (a : Addr) (D : Cell) (fV fC : Field) (b : Addr) (A : Cell) (z : Int32) (htab : tab.before sargs s = true) (hfr : 4 ≤ R.frames) (hlo : W + 65 ≤ R.locals) :
    Back l R p e below s sargs yN len W (fun A₁ a₁ => A₁.cells + 1 ≤ R.cells ∧ A₁.slots + A.slots.size ≤ R.slots ∧ P a D fV fC b A z a₁ A₁.U) (fun A₁ _ v₁ B₁ => E a D fV fC A v₁ A₁.U B₁.U ∧ B₁.locs = A₁.locs ++ [⟨a, fC.slot⟩, ⟨a, fV.slot⟩] ∧ B₁.cells = A₁.cells + 1 ∧ B₁.slots = A₁.slots + A.slots.size) :=
  (law l a D fV fC b A z).pays htab hfr (by omega)
end New1
/-- the byte, read back as charAt reads it, is the char -/
theorem lo8_mask {x : Int32} (h0 : ¬ x < 0) (h1 : ¬ 255 < x) : lo8 x &&& 255 = x := by
  have t : ∀ k : Fin 256, lo8 (Int32.ofNat k.val) &&& 255 = Int32.ofNat k.val := by decide +kernel
  rw [Int32.lt_iff_toInt_lt] at h0 h1
  have e0 : (0 : Int32).toInt = 0 := rfl
  have e1 : (255 : Int32).toInt = 255 := rfl
  obtain ⟨k, hk⟩ : ∃ k : Nat, x.toInt = k := ⟨x.toInt.toNat, by omega⟩
  have hx : x = Int32.ofNat k := Int32.toInt_inj.mp (by rw [hk, Int32.toInt_ofNat_small (by omega)])
  rw [hx]
  exact t ⟨k, by omega⟩
end StrChars
namespace StrChars.Road
open Jvm Sem ClassFile Op Lib Jvm.Stand Jvm.Free Jvm.Free.XT
open Jvm.Lib.Cold (StaticIs)
abbrev ST : String := "java/lang/String"
/-- every table word that New1's law asks, flat -/
abbrev words : List Jvm.Cond := [.code New1.yN New1.yB 2 none, .initialized ST, .methodLink ST 27 New4.yN, .instanceMethod New4.yN,
  .code New4.yN New4.yB 6 none, .fieldLink ST 38 ST "COMPACT_STRINGS" "Z", .laysFinal ST ST "value" "[B", .fieldLink ST 9 ST "value" "[B", .laysFinal ST ST "coder" "B", .fieldLink ST 15 ST "coder" "B",
  .methodLink ST 1 Lib.objectInit, .instanceMethod Lib.objectInit, .code Lib.objectInit ⟨#[0xb1]⟩ 1 none, .methodLink ST 177 Cmp3.yN, .static Cmp3.yN, .methodLink ST 47 CodL.yN, .static CodL.yN,
  .code Cmp3.yN Cmp3.yB 6 (some (.array .byte)), .initialized U16, .arrayClass .byte, .methodLink U16 115 Cmp5.yN, .static Cmp5.yN, .code Cmp5.yN Cmp5.yB 7 (some .int), .code CodL.yN CodL.yB 2 (some .byte)]
theorem tab_of {a : Array Value} {s : State} (h : ∀ w ∈ words, w.before a s = true) : New1.tab.before a s = true := by
  have h5 : Cmp5.tab.before a s = true := unparts (wk h (.code Cmp5.yN Cmp5.yB 7 (some .int))) (wks h (.initialized Cmp5.yN.cls :: Cmp5.site))
  have hc : CodL.tab.before a s = true := unparts (wk h (.code CodL.yN CodL.yB 2 (some .byte))) (wks h (.initialized CodL.yN.cls :: CodL.site))
  have q5 : ∀ w ∈ Cmp5.tab :: words, w.before a s = true := fun w hw => (List.mem_cons.mp hw).elim (fun e => e ▸ h5) (h w)
  have h3 : Cmp3.tab.before a s = true := unparts (wk q5 (.code Cmp3.yN Cmp3.yB 6 (some (.array .byte)))) (wks q5 (.initialized Cmp3.yN.cls :: Cmp3.site))
  have q3 : ∀ w ∈ Cmp3.tab :: CodL.tab :: words, w.before a s = true := fun w hw => (List.mem_cons.mp hw).elim (fun e => e ▸ h3) fun hw => (List.mem_cons.mp hw).elim (fun e => e ▸ hc) (h w)
  have h4 : New4.tab.before a s = true := unparts (wk q3 (.code New4.yN New4.yB 6 none)) (wks q3 (.initialized New4.yN.cls :: New4.site))
  have q4 : ∀ w ∈ New4.tab :: words, w.before a s = true := fun w hw => (List.mem_cons.mp hw).elim (fun e => e ▸ h4) (h w)
  exact unparts (wk q4 (.code New1.yN New1.yB 2 none)) (wks q4 (.initialized New1.yN.cls :: New1.site))
/-- the words ride from the start Z to the walk's own state -/
theorem moved {Z s : State} {a0 args : Array Value} (hZ : Z.Warmed39 s.vm) (hw : ∀ d ∈ words, d.before a0 Z = true) : ∀ d ∈ words, d.before args s = true := fun d hd => by
  have q := hw d hd
  have t : ∀ d ∈ words, d = .arrayClass .byte ∨ (d.onTables && d.keepsFace) = true := by decide +kernel
  rcases t d hd with rfl | t
  · exact RoadKit.mvA hZ q
  · exact RoadKit.mv hZ q t
/-- WHAT COMES BACK, over the tables of the start Z: h the heap at the call, h' behind it -/
def Q (Z : State) (x : Addr) (A : Cell) (h : Heap) (v : Option Value) (h' : Heap) (L : List Loc) : Prop := v = none ∧ (∀ y ∈ L, y.base = x) ∧ RoadKit.Keep h h' [x] ∧ h'.size = h.size + 1 ∧ RoadKit.Exa Z h' x ST ∧ RoadKit.Fld Z h' x ST "value" "[B" (.ref h.size) ∧ RoadKit.Fld Z h' x ST "coder" "B" (.int 0) ∧
  (∃ V : Cell, RoadKit.Arr Z h' h.size V .byte ∧ V.vm = .none ∧ Z.vm.findClass "[B" = some V.cls ∧ V.slots.size = A.slots.size ∧ ∀ j, j < A.slots.size → V.slots[j]? = some (.int (lo8 (cv A j)))) ∧
  ∀ (O n d : String) (w : Value), RoadKit.Fld Z h x O n d w → RoadKit.slotOf Z O n d ≠ RoadKit.slotOf Z ST "value" "[B" → RoadKit.slotOf Z O n d ≠ RoadKit.slotOf Z ST "coder" "B" → RoadKit.Fld Z h' x O n d w
/-- **new String(chars) AT A CALL, IN THE ROAD'S FORM**: for specialBack behind newO: x the fresh String, b the char[] with the cell A -/
theorem back {p : Program} {l : Launch} {e : Env} {R : Room} {s : State} {args : Array Value} {below : List Frame} {len W : Nat} {Z : State} {a0 : Array Value} {h : Heap} (hZ : Z.Warmed39 s.vm) (hw : ∀ d ∈ words, d.before a0 Z = true) {kI : Nat} (wi : (Jvm.Cond.instantiable ST kI).before a0 Z = true)
    {x b : Addr} {A : Cell} {z : Int32} {v0 c0 : Value} (E : RoadKit.Exa Z h x ST) (V : RoadKit.Fld Z h x ST "value" "[B" v0) (C : RoadKit.Fld Z h x ST "coder" "B" c0) (K : RoadKit.Arr Z h b A .char) (hty : Typed .char A) (S : RoadKit.Sta Z h ST "COMPACT_STRINGS" "Z" (.int z)) (hz : ¬ z = 0)
    (l0 : 0 < A.slots.size) (l2 : A.slots.size ≤ 536870912) (hp : ∀ i, i < A.slots.size → ¬ 255 < cv A i) (hfr : 4 ≤ R.frames) (hlo : W + 65 ≤ R.locals) :
    Back l R p e below s args New1.yN len W (fun P a => a = #[.ref x, .ref b] ∧ P.U.heap = h ∧ P.cells + 1 ≤ R.cells ∧ P.slots + A.slots.size ≤ R.slots)
      (fun P _ v B => ∃ L, Q Z x A h v B.U.heap L ∧ B.locs = P.locs ++ L ∧ B.cells = P.cells + 1 ∧ B.slots = P.slots + A.slots.size) := by
  intro m meth c P g ig mk a X hg hsize hdg hW hn hp'
  obtain ⟨rfl, rfl, r1, r2⟩ := hp'
  have al : Z.vm.Alike P.U.vm := hZ.alike.trans X.warmed.alike
  obtain ⟨D, cfV, kV, iV, fV, hD, gV, stV, knV, obV, asV, slV⟩ := id V
  obtain ⟨D', cfC, kC, iC, fC, hD', gC, stC, -, -, asC, slC⟩ := id C
  cases hD.symm.trans hD'
  obtain ⟨D2, kD, e1, e2, e3, e4, e5⟩ := id E
  cases hD.symm.trans e1
  obtain ⟨c2, k2, i1, i2, i3, -⟩ := Cond.instantiable_spec wi
  cases e2.symm.trans i1
  cases e3.symm.trans i2
  obtain ⟨kU, u1, u2⟩ := al.2.2 _ _ e3
  have hB : Blank ST x D P.U := ⟨hD, ⟨knV, fun q hq => by rw [hq] at obV; cases obV⟩, by rw [al.findClass]; exact e2, kU, u1, by rw [u2]; exact i3, by rw [u2]; exact e5 i3⟩
  have F1 : Found ST "value" "[B" fV P.U := ⟨SBG.found_only al ⟨cfV, kV, iV, gV⟩, stV⟩
  have F2 : Found ST "coder" "B" fC P.U := ⟨SBG.found_only al ⟨cfC, kC, iC, gC⟩, stC⟩
  have hA : Ch b A P.U := ⟨⟨K.1, State.isArrayOf_alike al K.2.1, K.2.2, by omega⟩, hty⟩
  have hS : StaticIs P.U ST "COMPACT_STRINGS" "Z" (.int z) := by
    obtain ⟨cfS, iS, kS, fS, st, cS, t1, t2, t3, t4, t5, t6, t7⟩ := S
    exact StaticIs.there (s := { Z with heap := P.U.heap }) ⟨cfS, iS, kS, fS, st, cS, t1, t2, t3, t4, t5, (fun q => by rw [q] at t6; cases t6), t7⟩ al rfl
  obtain ⟨v, B, X', ⟨⟨hv, E', V', q1, q2, q3, q4, q5, q6, q7, q8, q9, q10, q11⟩, hl, hc, hs⟩, st⟩ := New1.pays x D fV fC b A z (tab_of (moved hZ hw)) hfr hlo m meth c P g ig mk _ X hg hsize hdg hW hn ⟨r1, r2, rfl, hB, F1, F2, hA, hS, hz, l0, l2, hp⟩
  have al' : Z.vm.Alike B.U.vm := hZ.alike.trans X'.warmed.alike
  have hsz : E'.slots.size = D.slots.size := by
    obtain ⟨-, -, -, kB, w1, w2, w3⟩ := q1
    obtain ⟨kB', y1, y2⟩ := al'.2.2 _ _ e3
    rw [q2.2.1] at w1
    cases w1.symm.trans y1
    rw [w3, e5 i3, y2]
  refine ⟨v, B, X', ⟨_, ⟨hv, ?_, ⟨by omega, fun y cy hy hn' => q10 y cy (by simpa using hn') hy, fun y cy hy => ?_⟩, q11, ⟨E', _, q1.1, by rw [q2.2.1]; exact e2, by rw [q2.2.1]; exact e3, by rw [q2.1]; exact obV, fun _ => by rw [hsz]; exact e5 i3⟩,
    ⟨E', cfV, kV, iV, fV, q1.1, gV, stV, by rw [q2.1]; exact knV, by rw [q2.1]; exact obV, by rw [q2.2.1]; exact asV, q3⟩, ⟨E', cfC, kC, iC, fC, q1.1, gC, stC, by rw [q2.1]; exact knV, by rw [q2.1]; exact obV, by rw [q2.2.1]; exact asC, q4⟩,
    ⟨V', ⟨q5.1, State.isArrayOf_alike al'.symm q5.2.1, q5.2.2.1⟩, q6, by rw [← al'.findClass]; exact q7, q8, fun j hj => by have := q9 j hj; rwa [Nat.zero_add] at this⟩, fun O n d w F n1 n2 => ?_⟩, hl, hc, hs⟩, st⟩
  · intro y hy
    simp only [List.mem_cons, List.not_mem_nil, or_false] at hy
    rcases hy with rfl | rfl <;> rfl
  · by_cases q : y = x
    · subst q
      cases hD.symm.trans hy
      exact ⟨E', q1.1, q2.2.1, q2.1, hsz⟩
    · exact ⟨cy, q10 y cy q hy, rfl, rfl, rfl⟩
  · obtain ⟨D3, cf, k, i, f, g1, g2, g3, g4, g5, g6, g7⟩ := F
    cases hD.symm.trans g1
    simp only [RoadKit.slotOf, g2, gV, gC, Option.map_some, Option.getD_some] at n1 n2
    exact ⟨E', cf, k, i, f, q1.1, g2, g3, by rw [q2.1]; exact g4, by rw [q2.1]; exact g5, by rw [q2.2.1]; exact g6, by rw [q2.2.2 f.slot (by simp [n1, n2])]; exact g7⟩
end StrChars.Road
namespace StrChars.Road
open Jvm Sem ClassFile Op Lib Jvm.Stand Jvm.Free Jvm.Free.XT
/-- WHAT COMES BACK, the byte[] as a list of values -/
def QA (Z : State) (x : Addr) (zn : Int32) (cs : List Int32) (h : Heap) (v : Option Value) (h' : Heap) (L : List Loc) : Prop := v = none ∧ (∀ y ∈ L, y.base = x) ∧ RoadKit.Keep h h' [x] ∧ h'.size = h.size + 1 ∧ RoadKit.Exa Z h' x ST ∧ RoadKit.Fld Z h' x ST "value" "[B" (.ref h.size) ∧ RoadKit.Fld Z h' x ST "coder" "B" (.int 0) ∧
  (∃ kb, Z.vm.findClass "[B" = some kb ∧ RoadKit.Arv Z h' h.size kb .byte zn (cs.map fun c => .int (lo8 c)) (.int 0)) ∧
  ∀ (O n d : String) (w : Value), RoadKit.Fld Z h x O n d w → RoadKit.slotOf Z O n d ≠ RoadKit.slotOf Z ST "value" "[B" → RoadKit.slotOf Z O n d ≠ RoadKit.slotOf Z ST "coder" "B" → RoadKit.Fld Z h' x O n d w
/-- **new String(chars) AT A CALL, THE ARRAYS AS LISTS**: the char[] at b holds cs, not empty, no char above 255 -/
theorem backArv {p : Program} {l : Launch} {e : Env} {R : Room} {s : State} {args : Array Value} {below : List Frame} {len W : Nat} {Z : State} {a0 : Array Value} {h : Heap} (hZ : Z.Warmed39 s.vm) (hw : ∀ d ∈ words, d.before a0 Z = true) {kI : Nat} (wi : (Jvm.Cond.instantiable ST kI).before a0 Z = true)
    {x b : Addr} {k : ClassId} {zn z : Int32} {cs : List Int32} {dv v0 c0 : Value} (E : RoadKit.Exa Z h x ST) (V : RoadKit.Fld Z h x ST "value" "[B" v0) (C : RoadKit.Fld Z h x ST "coder" "B" c0) (K : RoadKit.Arv Z h b k .char zn (cs.map Value.int) dv) (S : RoadKit.Sta Z h ST "COMPACT_STRINGS" "Z" (.int z)) (hz : ¬ z = 0)
    (hlen : zn.toNatClampNeg = cs.length) (h0 : 0 < cs.length) (hbig : cs.length ≤ 536870912) (hall : ∀ c ∈ cs, ¬ 255 < c) (hfr : 4 ≤ R.frames) (hlo : W + 65 ≤ R.locals) :
    Back l R p e below s args New1.yN len W (fun P a => a = #[.ref x, .ref b] ∧ P.U.heap = h ∧ P.cells + 1 ≤ R.cells ∧ P.slots + cs.length ≤ R.slots)
      (fun P _ v B => ∃ L, QA Z x zn cs h v B.U.heap L ∧ B.locs = P.locs ++ L ∧ B.cells = P.cells + 1 ∧ B.slots = P.slots + cs.length) := by
  obtain ⟨A, K1, K2, K3, K4, K5, K6⟩ := K
  have e : A.slots.size = cs.length := K3.trans hlen
  have hat : ∀ (i : Nat) (hi : i < cs.length), A.slots[i]? = some (.int cs[i]) := fun i hi => by rw [K5 i (by omega)]; simp [List.getD_eq_getElem?_getD, hi]
  have hcv : ∀ (i : Nat) (hi : i < cs.length), cv A i = cs[i] := fun i hi => by unfold cv; rw [hat i hi]
  have hty : Typed .char A := fun i v hv => by
    have hi : i < A.slots.size := (Array.getElem?_eq_some_iff.mp hv).1
    have q := K5 i hi
    rw [hv] at q
    rw [Option.some.inj q]
    exact K6 i hi
  refine Back.mono (back hZ hw wi E V C K1 hty S hz (by omega) (by omega) (fun i hi => by rw [hcv i (by omega)]; exact hall _ (List.getElem_mem _)) hfr hlo) (fun P a hp => ⟨hp.1, hp.2.1, hp.2.2.1, by rw [e]; exact hp.2.2.2⟩) (fun P a v B hp hq => ?_)
  obtain ⟨L, ⟨q1, q2, q3, q4, q5, q6, q7, ⟨V', v1, v2, v3, v4, v5⟩, q9⟩, hl, hc, hs⟩ := hq
  refine ⟨L, ⟨q1, q2, q3, q4, q5, q6, q7, ⟨V'.cls, v3, V', v1, rfl, by rw [v4, e, hlen], K4, fun i hi => ?_, fun i hi => ?_⟩, q9⟩, hl, hc, by rw [hs, e]⟩
  · have hi' : i < cs.length := by omega
    rw [v5 i (by omega), hcv i hi']; simp [List.getD_eq_getElem?_getD, hi']
  · have hi' : i < cs.length := by omega
    simp only [List.getD_eq_getElem?_getD, List.getElem?_map, List.getElem?_eq_getElem hi', Option.map_some, Option.getD_some]
    exact fits_lo8 _
end StrChars.Road
namespace StrChars.Road
open Jvm Sem ClassFile Op Lib Jvm.Stand Jvm.Free Jvm.Free.XT
/-- WHAT COMES BACK, in the writer's own shape -/
def QV (Z : State) (x : Addr) (N : Int32) (bs : List Int32) (h : Heap) (n0 : Nat) (v : Option Value) (h' : Heap) (L : List Loc) : Prop := v = none ∧ RoadKit.Fr n0 L ∧ RoadKit.Keep h h' [x] ∧ RoadKit.Exa Z h' x ST ∧ RoadKit.Fld Z h' x ST "coder" "B" (.int 0) ∧
  ∃ (t : Addr) (kb : ClassId), n0 ≤ t ∧ h.size ≤ t ∧ ¬ t = x ∧ RoadKit.Fld Z h' x ST "value" "[B" (.ref t) ∧ RoadKit.Arv Z h' t kb .byte N (bs.map Value.int) (.int 0)
/-- **new String(chars) AT A CALL, FOR THE WRITER**: a char[] of n known ints, each 0 to 255 -/
theorem backV {p : Program} {l : Launch} {e : Env} {R : Room} {s : State} {args : Array Value} {below : List Frame} {len W : Nat} {Z : State} {a0 : Array Value} {h : Heap} (hZ : Z.Warmed39 s.vm) (hw : ∀ d ∈ words, d.before a0 Z = true) {kI : Nat} (wi : (Jvm.Cond.instantiable ST kI).before a0 Z = true)
    {x b : Addr} {kC : ClassId} {cs bs : List Int32} {d v0 c0 : Value} {z N : Int32} {n n0 : Nat} (hx0 : n0 ≤ x) (hh0 : n0 ≤ h.size) (E : RoadKit.Exa Z h x ST) (V : RoadKit.Fld Z h x ST "value" "[B" v0) (C : RoadKit.Fld Z h x ST "coder" "B" c0) (K : RoadKit.Arv Z h b kC .char N (cs.map Value.int) d) (S : RoadKit.Sta Z h ST "COMPACT_STRINGS" "Z" (.int z)) (hz : ¬ z = 0)
    (hn : cs.length = n) (hN : N = Int32.ofNat n) (l0 : 0 < n) (l2 : n ≤ 4000) (hp : ∀ c ∈ cs, ¬ c < 0 ∧ ¬ (255 : Int32) < c) (hb : bs = cs.map (fun c => c.toInt8.toInt32)) (hfr : 4 ≤ R.frames) (hlo : W + 65 ≤ R.locals) :
    Back l R p e below s args (⟨"java/lang/String", "<init>", "([C)V"⟩ : MethodName) len W (fun P a => a = #[.ref x, .ref b] ∧ P.U.heap = h ∧ P.cells + 1 ≤ R.cells ∧ P.slots + n ≤ R.slots)
      (fun P _ v B => ∃ L, QV Z x N bs h n0 v B.U.heap L ∧ B.locs = P.locs ++ L ∧ B.cells = P.cells + 1 ∧ B.slots = P.slots + n) := by
  subst hn hN hb
  refine Back.mono (backArv hZ hw wi E V C K S hz (n32 (by omega)) l0 (by omega) (fun c hc => (hp c hc).2) hfr hlo) (fun P a hp => hp) (fun P a v B hp hq => ?_)
  obtain ⟨L, ⟨q1, q2, q3, q4, q5, q6, q7, ⟨kb, v1, v2⟩, q9⟩, hl, hc, hs⟩ := hq
  exact ⟨L, ⟨q1, fun y hy => by rw [q2 y hy]; exact hx0, q3, q5, q7, h.size, kb, hh0, Nat.le_refl _, Nat.ne_of_gt E.lt, q6, by rw [List.map_map]; exact v2⟩, hl, hc, hs⟩
end StrChars.Road
namespace StrChars
open Jvm Sem ClassFile Op Lib Jvm.Stand Jvm.Free.XT Jvm.Free.ALB Jvm.Free.JM Jvm.Free
open Jvm.Lib.Cold (StaticIs)
def hi8 (x : Int32) : Int32 := lo8 (x >>> ((8 : Int32) &&& 31))
/-- what StringUTF16.getChar makes of two bytes -/
def pairCh (u v : Int32) : Int32 := (((u &&& 255) <<< ((0 : Int32) &&& 31)) ||| ((v &&& 255) <<< ((8 : Int32) &&& 31))).toUInt32.toUInt16.toUInt32.toInt32
theorem lo8_and (x : Int32) : (lo8 x &&& 255).toBitVec.toNat = x.toBitVec.toNat % 256 := by
  have h : (lo8 x).toBitVec = (x.toBitVec.signExtend 8).signExtend 32 := by rw [lo8, Int8.toBitVec_toInt32, Int32.toBitVec_toInt8]
  rw [Int32.toBitVec_and, BitVec.toNat_and, h]
  have e : ((x.toBitVec.signExtend 8).signExtend 32).toNat % 256 = x.toBitVec.toNat % 256 := by
    rw [BitVec.toNat_signExtend]
    have hlt := x.toBitVec.isLt
    simp only [BitVec.toNat_setWidth, BitVec.toNat_signExtend]
    split <;> split <;> omega
  rw [← e]
  exact Nat.and_two_pow_sub_one_eq_mod _ 8
theorem pair_says {c : Int32} (h0 : ¬ c < 0) (h1 : ¬ 65535 < c) : pairCh (lo8 c) (hi8 c) = c := by
  rw [Int32.lt_iff_toInt_lt] at h0 h1
  have e0 : (0 : Int32).toInt = 0 := rfl
  have e1 : (65535 : Int32).toInt = 65535 := rfl
  have hc : c.toInt = c.toBitVec.toNat := by
    have := c.toBitVec.isLt
    have e : c.toInt = c.toBitVec.toInt := rfl
    rw [e] at h0 h1
    rw [e]
    rw [BitVec.toInt_eq_toNat_cond] at h0 h1 ⊢
    split at h0 <;> split <;> omega
  have hn : c.toBitVec.toNat < 65536 := by omega
  have a1 := lo8_and c
  have a2 : (hi8 c &&& 255).toBitVec.toNat = c.toBitVec.toNat / 256 := by
    rw [hi8, lo8_and]
    have e : ((8 : Int32) &&& 31) = 8 := by decide
    rw [e, Int32.toBitVec_shiftRight]
    have e2 : ((8 : Int32).toBitVec.smod 32) = 8#32 := by decide
    rw [e2, BitVec.sshiftRight_eq', BitVec.toNat_sshiftRight_of_msb_false (by rw [BitVec.msb_eq_false_iff_two_mul_lt]; omega)]
    show c.toBitVec.toNat >>> 8 % 256 = _
    rw [Nat.shiftRight_eq_div_pow]
    omega
  unfold pairCh
  apply Int32.toBitVec_inj.mp
  apply BitVec.eq_of_toNat_eq
  have f0 : ((0 : Int32) &&& 31) = 0 := by decide
  have f8 : ((8 : Int32) &&& 31) = 8 := by decide
  rw [f0, f8]
  have g : (((lo8 c &&& 255) <<< (0 : Int32)) ||| ((hi8 c &&& 255) <<< (8 : Int32))).toBitVec.toNat = c.toBitVec.toNat := by
    rw [Int32.toBitVec_or, Int32.toBitVec_shiftLeft, Int32.toBitVec_shiftLeft]
    have s0 : ((0 : Int32).toBitVec.smod 32) = 0#32 := by decide
    have s8 : ((8 : Int32).toBitVec.smod 32) = 8#32 := by decide
    rw [s0, s8, BitVec.toNat_or]
    simp only [BitVec.shiftLeft_eq', BitVec.toNat_shiftLeft, a1, a2]
    show (c.toBitVec.toNat % 256) <<< 0 % 2 ^ 32 ||| (c.toBitVec.toNat / 256) <<< 8 % 2 ^ 32 = _
    rw [Nat.shiftLeft_zero, Nat.mod_eq_of_lt (show c.toBitVec.toNat % 256 < 2 ^ 32 by omega), Nat.mod_eq_of_lt (show (c.toBitVec.toNat / 256) <<< 8 < 2 ^ 32 by rw [Nat.shiftLeft_eq]; omega), Nat.or_comm, ← Nat.shiftLeft_add_eq_or_of_lt (by omega), Nat.shiftLeft_eq]
    omega
  show BitVec.toNat (((((lo8 c &&& 255) <<< (0 : Int32)) ||| ((hi8 c &&& 255) <<< (8 : Int32))).toBitVec.setWidth 16).setWidth 32) = _
  rw [BitVec.toNat_setWidth, BitVec.toNat_setWidth, g]
  omega
end StrChars
namespace StrChars
open Jvm Sem ClassFile Op Lib Jvm.Stand Jvm.Free.XT Jvm.Free.ALB Jvm.Free.JM Jvm.Free
open Jvm.Lib.Cold (StaticIs)
/-- the array's cell V codes the n chars f 0 .. f (n - 1) by the coder cd, as the JDK does: coder 1 just where some char is above 255 -/
def Cod (cd : Int32) (n : Nat) (f : Nat → Int32) (V : Cell) : Prop := (cd = 0 ∧ V.slots.size = n ∧ ∀ j, j < n → V.slots[j]? = some (.int (lo8 (f j))) ∧ ¬ 255 < f j) ∨ (cd = 1 ∧ V.slots.size = 2 * n ∧ (∀ j, j < n → V.slots[2 * j]? = some (.int (lo8 (f j))) ∧ V.slots[2 * j + 1]? = some (.int (hi8 (f j)))) ∧ ∃ j, j < n ∧ 255 < f j)
/-- **x is a String of the n chars f 0 .. f (n - 1)**, Latin-1 or UTF-16; its array at t has the cell V -/
def Txt (x t : Addr) (V : Cell) (cd : Int32) (n : Nat) (f : Nat → Int32) (U : State) : Prop := Exact "java/lang/String" x U ∧ Has x "java/lang/String" "value" "[B" (.ref t) U ∧ Has x "java/lang/String" "coder" "B" (.int cd) U ∧ XT.Arr .byte t V U ∧ Cod cd n f V ∧ ∀ j, j < n → ¬ f j < 0 ∧ ¬ 65535 < f j
theorem Txt.mv {x t : Addr} {V : Cell} {cd : Int32} {n : Nat} {f : Nat → Int32} {U U' : State} (h : Txt x t V cd n f U) (hal : U.vm.Alike U'.vm) (hh : U'.heap = U.heap) : Txt x t V cd n f U' := ⟨h.1.mv hal hh, h.2.1.mv hal hh, h.2.2.1.mv hal hh, h.2.2.2.1.mv hal hh, h.2.2.2.2⟩
end StrChars
namespace StrChars.Road
open Jvm Sem ClassFile Op Lib Jvm.Stand Jvm.Free Jvm.Free.XT
open Jvm.Lib.Cold (StaticIs)
theorem consq {a : Array Value} {s : State} {c : Jvm.Cond} {L : List Jvm.Cond} (h0 : c.before a s = true) (h : ∀ w ∈ L, w.before a s = true) : ∀ w ∈ c :: L, w.before a s = true := fun w hw => (List.mem_cons.mp hw).elim (fun e => e ▸ h0) (h w)
/-- the bytes of the chars cs, low before high -/
def wideBytes : List Int32 → List Value
  | [] => []
  | c :: cs => .int (lo8 c) :: .int (hi8 c) :: wideBytes cs
theorem wide_lo (d : Value) : ∀ (cs : List Int32) (j : Nat), j < cs.length → (wideBytes cs).getD (2 * j) d = .int (lo8 (cs.getD j 0))
  | [], j, h => absurd h (Nat.not_lt_zero j)
  | c :: cs, 0, _ => rfl
  | c :: cs, j + 1, h => by
    have q := wide_lo d cs j (by simpa using h)
    rw [show 2 * (j + 1) = 2 * j + 1 + 1 from by omega]
    simpa [wideBytes] using q
theorem wide_hi (d : Value) : ∀ (cs : List Int32) (j : Nat), j < cs.length → (wideBytes cs).getD (2 * j + 1) d = .int (hi8 (cs.getD j 0))
  | [], j, h => absurd h (Nat.not_lt_zero j)
  | c :: cs, 0, _ => rfl
  | c :: cs, j + 1, h => by
    have q := wide_hi d cs j (by simpa using h)
    rw [show 2 * (j + 1) + 1 = 2 * j + 1 + 1 + 1 from by omega]
    simpa [wideBytes] using q
theorem low_at (d : Value) (cs : List Int32) (j : Nat) (h : j < cs.length) : (cs.map fun c => Value.int (lo8 c)).getD j d = .int (lo8 (cs.getD j 0)) := by
  simp [List.getD_eq_getElem?_getD, h]
/-- an array of N2 bytes vs codes the chars cs by the coder cd -/
def CodA (cs : List Int32) (cd N2 : Int32) (vs : List Value) : Prop := (cd = 0 ∧ N2 = Int32.ofNat cs.length ∧ vs = (cs.map fun c => Value.int (lo8 c)) ∧ ∀ c ∈ cs, ¬ 255 < c) ∨ (cd = 1 ∧ N2 = Int32.ofNat (2 * cs.length) ∧ vs = wideBytes cs ∧ ∃ c ∈ cs, 255 < c)
theorem CodA.cod {cs : List Int32} {cd N2 : Int32} {vs : List Value} {V : Cell} (h : CodA cs cd N2 vs) (hn : 2 * cs.length < 2 ^ 31) (hs : V.slots.size = N2.toNatClampNeg) (hv : RoadKit.Has V vs (.int 0)) : Cod cd cs.length (fun j => cs.getD j 0) V := by
  rcases h with ⟨rfl, rfl, rfl, h⟩ | ⟨rfl, rfl, rfl, c, hc, hw⟩
  · rw [n32 (by omega)] at hs
    exact Or.inl ⟨rfl, hs, fun j hj => ⟨by rw [hv j (by omega), low_at _ _ _ hj], by
      have e : cs.getD j 0 = cs[j] := by simp [List.getD_eq_getElem?_getD, hj]
      show ¬ 255 < cs.getD j 0
      rw [e]; exact h _ (List.getElem_mem _)⟩⟩
  · rw [n32 (by omega)] at hs
    obtain ⟨j, hj, rfl⟩ := List.getElem_of_mem hc
    exact Or.inr ⟨rfl, hs, fun j hj => ⟨by rw [hv _ (by omega), wide_lo _ _ _ hj], by rw [hv _ (by omega), wide_hi _ _ _ hj]⟩, j, hj, by
      have e : cs.getD j 0 = cs[j] := by simp [List.getD_eq_getElem?_getD, hj]
      show 255 < cs.getD j 0
      rw [e]; exact hw⟩
/-- an object of exactly java/lang/String, its two fields found: as the laws ask it -/
theorem strObj {Z U : State} {a0 : Array Value} {kI : Nat} (wi : (Jvm.Cond.instantiable ST kI).before a0 Z = true) (al : Z.vm.Alike U.vm) {x : Addr} {v0 c0 : Value} (E : RoadKit.Exa Z U.heap x ST) (V : RoadKit.Fld Z U.heap x ST "value" "[B" v0) (C : RoadKit.Fld Z U.heap x ST "coder" "B" c0) :
    ∃ (D : Cell) (fV fC : Field), Blank ST x D U ∧ Found ST "value" "[B" fV U ∧ Found ST "coder" "B" fC U ∧ D.slots[fV.slot]? = some v0 ∧ D.slots[fC.slot]? = some c0 ∧ RoadKit.slotOf Z ST "value" "[B" = fV.slot ∧ RoadKit.slotOf Z ST "coder" "B" = fC.slot := by
  obtain ⟨D, cfV, kV, iV, fV, hD, gV, stV, knV, obV, asV, slV⟩ := V
  obtain ⟨D', cfC, kC, iC, fC, hD', gC, stC, -, -, asC, slC⟩ := C
  cases hD.symm.trans hD'
  obtain ⟨D2, kD, e1, e2, e3, e4, e5⟩ := E
  cases hD.symm.trans e1
  obtain ⟨c2, k2, i1, i2, i3, -⟩ := Cond.instantiable_spec wi
  cases e2.symm.trans i1
  cases e3.symm.trans i2
  obtain ⟨kU, u1, u2⟩ := al.2.2 _ _ e3
  exact ⟨D, fV, fC, ⟨hD, ⟨knV, fun q hq => by rw [hq] at obV; cases obV⟩, by rw [al.findClass]; exact e2, kU, u1, by rw [u2]; exact i3, by rw [u2]; exact e5 i3⟩, ⟨SBG.found_only al ⟨cfV, kV, iV, gV⟩, stV⟩, ⟨SBG.found_only al ⟨cfC, kC, iC, gC⟩, stC⟩, slV, slC, by simp [RoadKit.slotOf, gV], by simp [RoadKit.slotOf, gC]⟩
theorem sta_is {Z U : State} (al : Z.vm.Alike U.vm) {C n d : String} {v : Value} (S : RoadKit.Sta Z U.heap C n d v) : StaticIs U C n d v := by
  obtain ⟨cfS, iS, kS, fS, st, cS, t1, t2, t3, t4, t5, t6, t7⟩ := S
  exact StaticIs.there (s := { Z with heap := U.heap }) ⟨cfS, iS, kS, fS, st, cS, t1, t2, t3, t4, t5, (fun q => by rw [q] at t6; cases t6), t7⟩ al rfl
end StrChars.Road
namespace StrChars
open Jvm Sem ClassFile Op Lib Jvm.Stand Jvm.Free.XT Jvm.Free.ALB Jvm.Free.JM Jvm.Free
open Jvm.Lib.Cold (StaticIs)
/-- what place i of a byte[]'s cell holds -/
def yv (A : Cell) (i : Nat) : Int32 := match A.slots[i]? with | some (.int x) => x | _ => 0
theorem yv_get {a : Addr} {A : Cell} {U : State} (h : XT.Arr .byte a A U) (ht : Typed .byte A) {i : Nat} (hi : i < A.slots.size) : A.slots[i]? = some (.int (yv A i)) := by
  have e := Array.getElem?_eq_getElem hi
  have f := ht i _ e
  unfold yv; rw [e]
  generalize A.slots[i] = v at f
  cases v <;> simp [fits] at f ⊢
/-- the two arrays are equal, place for place -/
def EqC (A B : Cell) : Prop := A.slots.size = B.slots.size ∧ ∀ i, i < A.slots.size → yv A i = yv B i
/-- a boolean that says whether p -/
def Says01 (q : Prop) (r : Option Value) (s u : State) : Prop := ∃ v : Int32, r = some (.int v) ∧ u.heap = s.heap ∧ ((v = 1 ∧ q) ∨ (v = 0 ∧ ¬ q))
theorem Says01.mv {q : Prop} : ∀ r (U U' V V' : State), U'.heap = U.heap → V.vm.Alike V'.vm → V'.heap = V.heap → Says01 q r U V → Says01 q r U' V' :=
  fun r U U' V V' h1 _ h2 ⟨v, a, b, c⟩ => ⟨v, a, by rw [h1, h2]; exact b, c⟩
namespace LEq
def yN : MethodName := ⟨"java/lang/StringLatin1", "equals", "([B[B)Z"⟩
abbrev yB : ByteArray := jdk_43_method_13_code
theorem d0 : decode yB 0 = .ok (.aload_n 0, 1) := by decide +kernel
theorem d1 : decode yB 1 = .ok (.arraylength, 1) := by decide +kernel
theorem d2 : decode yB 2 = .ok (.aload_n 1, 1) := by decide +kernel
theorem d3 : decode yB 3 = .ok (.arraylength, 1) := by decide +kernel
theorem d4 : decode yB 4 = .ok (.if_icmp (.ne) 30, 3) := by decide +kernel
theorem d7 : decode yB 7 = .ok (.iconst 0, 1) := by decide +kernel
theorem d8 : decode yB 8 = .ok (.istore_n 2, 1) := by decide +kernel
theorem d9 : decode yB 9 = .ok (.iload_n 2, 1) := by decide +kernel
theorem d10 : decode yB 10 = .ok (.aload_n 0, 1) := by decide +kernel
theorem d11 : decode yB 11 = .ok (.arraylength, 1) := by decide +kernel
theorem d12 : decode yB 12 = .ok (.if_icmp (.ge) 20, 3) := by decide +kernel
theorem d15 : decode yB 15 = .ok (.aload_n 0, 1) := by decide +kernel
theorem d16 : decode yB 16 = .ok (.iload_n 2, 1) := by decide +kernel
theorem d17 : decode yB 17 = .ok (.baload, 1) := by decide +kernel
theorem d18 : decode yB 18 = .ok (.aload_n 1, 1) := by decide +kernel
theorem d19 : decode yB 19 = .ok (.iload_n 2, 1) := by decide +kernel
theorem d20 : decode yB 20 = .ok (.baload, 1) := by decide +kernel
theorem d21 : decode yB 21 = .ok (.if_icmp (.eq) 5, 3) := by decide +kernel
theorem d24 : decode yB 24 = .ok (.iconst 0, 1) := by decide +kernel
theorem d25 : decode yB 25 = .ok (.ireturn, 1) := by decide +kernel
theorem d26 : decode yB 26 = .ok (.iinc 2 1, 3) := by decide +kernel
theorem d29 : decode yB 29 = .ok (.goto (-20), 3) := by decide +kernel
theorem d32 : decode yB 32 = .ok (.iconst 1, 1) := by decide +kernel
theorem d33 : decode yB 33 = .ok (.ireturn, 1) := by decide +kernel
theorem d34 : decode yB 34 = .ok (.iconst 0, 1) := by decide +kernel
theorem d35 : decode yB 35 = .ok (.ireturn, 1) := by decide +kernel
def site : List Cond := []
def tab : Cond := tabOf yN yB 3 (some .boolean) site
def P (a : Addr) (A : Cell) (b : Addr) (B : Cell) (args : Array Value) (s : State) : Prop := args = #[.ref a, .ref b] ∧ XT.Arr .byte a A s ∧ Typed .byte A ∧ XT.Arr .byte b B s ∧ Typed .byte B
/-- whether two byte[] are equal, place for place -/
theorem law (l : Launch) (a : Addr) (A : Cell) (b : Addr) (B : Cell) : Law l yN 2 2 0 0 yB 3 (some .boolean) site (P a A b B) (Says01 (EqC A B)) [] 0 0 := by
  refine Law.of_walk (plainFor_of_name (by decide +kernel)) (by decide +kernel) (by decide +kernel) (by decide) (fun _ _ h => by rw [h.1]; rfl) (fun _ U U' hal hh h => ⟨h.1, h.2.1.mv hal hh, h.2.2.1, h.2.2.2.1.mv hal hh, h.2.2.2.2⟩) (fun r U U' V V' h1 hal h2 h => Says01.mv r U U' V V' h1 hal h2 h) ?_
  intro p e s m args below meth c s₁ X0 hexec hbytes hml hret hlk hnm hown hh0 W hP
  obtain ⟨rfl, hA, tA, hB, tB⟩ := hP
  have a31 := hA.2.2.2
  have b31 := hB.2.2.2
  have hA0 := hA.mv X0.warmed.alike hh0
  have hB0 := hB.mv X0.warmed.alike hh0
  have c1 : Steps p.tables e below (s₁.setTop (entryFrame m #[.ref a, .ref b] 3)) (s₁.setTop (mkF m 0 #[.val (.ref a), .val (.ref b), .unset] [])) := entry rfl
  have c2 : Steps p.tables e below (s₁.setTop (entryFrame m #[.ref a, .ref b] 3)) (s₁.setTop (mkF m 4 #[.val (.ref a), .val (.ref b), .unset] [.int (Int32.ofNat B.slots.size), .int (Int32.ofNat A.slots.size)])) := c1.trans (by
    refine XS.aloadN X0.here hexec rfl (hb hbytes d0) rfl rfl ?_
    refine X0.alen hexec hA0 rfl rfl (hb hbytes d1) ?_
    refine XS.aloadN X0.here hexec rfl (hb hbytes d2) rfl rfl ?_
    refine X0.alen hexec hB0 rfl rfl (hb hbytes d3) ?_
    exact Steps.refl _)
  by_cases hs : A.slots.size = B.slots.size
  · have c3 : Steps p.tables e below (s₁.setTop (entryFrame m #[.ref a, .ref b] 3)) (s₁.setTop (mkF m 9 #[.val (.ref a), .val (.ref b), .val (.int 0)] [])) := c2.trans (by
      refine XS.icmpNo X0.here hexec rfl (hb hbytes d4) rfl (ii_ne_f (by rw [hs])) ?_
      refine iconstV X0.here hexec rfl 0 (hb hbytes d7) (by decide) ?_
      refine XS.istoreN X0.here hexec rfl (hb hbytes d8) rfl rfl ?_
      exact Steps.refl _)
    have loop : ∀ (r i : Nat), i + r = A.slots.size → (∀ j, j < i → yv A j = yv B j) → Steps p.tables e below (s₁.setTop (entryFrame m #[.ref a, .ref b] 3)) (s₁.setTop (mkF m 9 #[.val (.ref a), .val (.ref b), .val (.int (Int32.ofNat i))] [])) → ∃ (pc : Nat) (Ls : Array Slot) (v : Int32), (pc = 25 ∨ pc = 33) ∧ ((v = 1 ∧ EqC A B) ∨ (v = 0 ∧ ¬ EqC A B)) ∧ Steps p.tables e below (s₁.setTop (entryFrame m #[.ref a, .ref b] 3)) (s₁.setTop (mkF m pc Ls [.int v])) := by
      intro r
      induction r with
      | zero =>
        intro i hi he cl
        exact ⟨33, _, 1, Or.inr rfl, Or.inl ⟨rfl, hs, fun j hj => he j (by omega)⟩, cl.trans (by
          refine XS.iloadN X0.here hexec rfl (hb hbytes d9) rfl ?_
          refine XS.aloadN X0.here hexec rfl (hb hbytes d10) rfl rfl ?_
          refine X0.alen hexec hA0 rfl rfl (hb hbytes d11) ?_
          refine XS.icmpYes X0.here hexec rfl (pc0 := 12) rfl (hb hbytes d12) rfl (ii_ge_t (nlt32 (by omega) (by omega))) (by decide) rfl ?_
          refine iconstV X0.here hexec rfl 1 (hb hbytes d32) (by decide) ?_
          exact Steps.refl _)⟩
      | succ r ih =>
        intro i hi he cl
        have c4 : Steps p.tables e below (s₁.setTop (entryFrame m #[.ref a, .ref b] 3)) (s₁.setTop (mkF m 21 #[.val (.ref a), .val (.ref b), .val (.int (Int32.ofNat i))] [.int (yv B i), .int (yv A i)])) := cl.trans (by
          refine XS.iloadN X0.here hexec rfl (hb hbytes d9) rfl ?_
          refine XS.aloadN X0.here hexec rfl (hb hbytes d10) rfl rfl ?_
          refine X0.alen hexec hA0 rfl rfl (hb hbytes d11) ?_
          refine XS.icmpNo X0.here hexec rfl (hb hbytes d12) rfl (ii_ge_f (lt32 (by omega) (by omega))) ?_
          refine XS.aloadN X0.here hexec rfl (hb hbytes d15) rfl rfl ?_
          refine XS.iloadN X0.here hexec rfl (hb hbytes d16) rfl ?_
          refine X0.aget hexec hA0 rfl (yv_get hA tA (i := i) (by omega)) rfl rfl (hb hbytes d17) ?_
          refine XS.aloadN X0.here hexec rfl (hb hbytes d18) rfl rfl ?_
          refine XS.iloadN X0.here hexec rfl (hb hbytes d19) rfl ?_
          refine X0.aget hexec hB0 rfl (yv_get hB tB (i := i) (by omega)) rfl rfl (hb hbytes d20) ?_
          exact Steps.refl _)
        by_cases hv : yv A i = yv B i
        · have c5 : Steps p.tables e below (s₁.setTop (entryFrame m #[.ref a, .ref b] 3)) (s₁.setTop (mkF m 9 #[.val (.ref a), .val (.ref b), .val (.int (Int32.ofNat i + 1))] [])) := c4.trans (by
            refine XS.icmpYes X0.here hexec rfl (pc0 := 21) rfl (hb hbytes d21) rfl (ii_eq_t hv) (by decide) rfl ?_
            refine iincV X0.here hexec rfl 1 (hb hbytes d26) (by decide) rfl rfl ?_
            refine XS.goto X0.here hexec rfl (pc0 := 29) rfl (hb hbytes d29) (by decide) rfl ?_
            exact Steps.refl _)
          rw [succ32] at c5
          exact ih (i + 1) (by omega) (fun j hj => by
            by_cases e : j = i
            · rw [e]; exact hv
            · exact he j (by omega)) c5
        · exact ⟨25, _, 0, Or.inl rfl, Or.inr ⟨rfl, fun q => hv (q.2 i (by omega))⟩, c4.trans (by
            refine XS.icmpNo X0.here hexec rfl (hb hbytes d21) rfl (ii_eq_f hv) ?_
            refine iconstV X0.here hexec rfl 0 (hb hbytes d24) (by decide) ?_
            exact Steps.refl _)⟩
    obtain ⟨pc, Ls, v, hpc, hv, cz⟩ := loop A.slots.size 0 (by omega) (fun j hj => absurd hj (Nat.not_lt_zero j)) c3
    have nv : narrow .boolean (.int v) = .int v := by rcases hv with ⟨rfl, -⟩ | ⟨rfl, -⟩ <;> rfl
    rcases hpc with rfl | rfl
    · exact ⟨s₁, some (.int v), _, _, _, X0, rfl, rfl, rfl, (fun h => by cases h), ⟨v, rfl, hh0, hv⟩, fun fs hl => cz.trans (X0.ireturnOut hexec hret nv (Or.inr (Or.inl rfl)) (hb hbytes d25) hl)⟩
    · exact ⟨s₁, some (.int v), _, _, _, X0, rfl, rfl, rfl, (fun h => by cases h), ⟨v, rfl, hh0, hv⟩, fun fs hl => cz.trans (X0.ireturnOut hexec hret nv (Or.inr (Or.inl rfl)) (hb hbytes d33) hl)⟩
  · have c3 : Steps p.tables e below (s₁.setTop (entryFrame m #[.ref a, .ref b] 3)) (s₁.setTop (mkF m 35 #[.val (.ref a), .val (.ref b), .unset] [.int 0])) := c2.trans (by
      refine XS.icmpYes X0.here hexec rfl (pc0 := 4) rfl (hb hbytes d4) rfl (ii_ne_t (ne32 a31 b31 hs)) (by decide) rfl ?_
      refine iconstV X0.here hexec rfl 0 (hb hbytes d34) (by decide) ?_
      exact Steps.refl _)
    exact ⟨s₁, some (.int 0), _, _, _, X0, rfl, rfl, rfl, (fun h => by cases h), ⟨0, rfl, hh0, Or.inr ⟨rfl, fun q => hs q.1⟩⟩, fun fs hl => c3.trans (X0.ireturnOut hexec hret rfl (Or.inr (Or.inl rfl)) (hb hbytes d35) hl)⟩
end LEq
theorem Cod.ty {cd : Int32} {n : Nat} {f : Nat → Int32} {V : Cell} (h : Cod cd n f V) : Typed .byte V := fun i v hv => by
  have hi : i < V.slots.size := (Array.getElem?_eq_some_iff.mp hv).1
  rcases h with ⟨-, k1, k2⟩ | ⟨-, k1, k2, -⟩
  · rw [(k2 i (by omega)).1] at hv; cases hv; exact fits_lo8 _
  · rcases Nat.mod_two_eq_zero_or_one i with e | e
    · obtain ⟨j, rfl⟩ : ∃ j, i = 2 * j := ⟨i / 2, by omega⟩
      rw [(k2 j (by omega)).1] at hv; cases hv; exact fits_lo8 _
    · obtain ⟨j, rfl⟩ : ∃ j, i = 2 * j + 1 := ⟨i / 2, by omega⟩
      rw [(k2 j (by omega)).2] at hv; cases hv; exact fits_lo8 _
/-- the same text -/
def SameT (n : Nat) (f : Nat → Int32) (k : Nat) (g : Nat → Int32) : Prop := n = k ∧ ∀ j, j < n → f j = g j
theorem lo8_inj {x y : Int32} (h0 : ¬ x < 0) (h1 : ¬ 255 < x) (k0 : ¬ y < 0) (k1 : ¬ 255 < y) (h : lo8 x = lo8 y) : x = y := by
  rw [← lo8_mask h0 h1, ← lo8_mask k0 k1, h]
/-- arrays coded by one coder are equal just where the texts are -/
theorem Cod.eqv {cd : Int32} {n k : Nat} {f g : Nat → Int32} {V V' : Cell} (h : Cod cd n f V) (h' : Cod cd k g V') (hf : ∀ j, j < n → ¬ f j < 0 ∧ ¬ 65535 < f j) (hg : ∀ j, j < k → ¬ g j < 0 ∧ ¬ 65535 < g j) : EqC V V' ↔ SameT n f k g := by
  have yvv : ∀ {W : Cell} {i : Nat} {x : Int32}, W.slots[i]? = some (.int x) → yv W i = x := fun q => by unfold yv; rw [q]
  rcases h with ⟨rfl, k1, k2⟩ | ⟨rfl, k1, k2, -⟩
  · rcases h' with ⟨-, m1, m2⟩ | ⟨e, -⟩
    · constructor
      · rintro ⟨e1, e2⟩
        refine ⟨by omega, fun j hj => ?_⟩
        have q := e2 j (by omega)
        rw [yvv (k2 j hj).1, yvv (m2 j (by omega)).1] at q
        exact lo8_inj (hf j hj).1 (k2 j hj).2 (hg j (by omega)).1 (m2 j (by omega)).2 q
      · rintro ⟨rfl, e2⟩
        refine ⟨by omega, fun j hj => ?_⟩
        rw [yvv (k2 j (by omega)).1, yvv (m2 j (by omega)).1, e2 j (by omega)]
    · exact absurd e (by decide)
  · rcases h' with ⟨e, -⟩ | ⟨-, m1, m2, -⟩
    · exact absurd e (by decide)
    · constructor
      · rintro ⟨e1, e2⟩
        refine ⟨by omega, fun j hj => ?_⟩
        have q1 := e2 (2 * j) (by omega)
        have q2 := e2 (2 * j + 1) (by omega)
        rw [yvv (k2 j hj).1, yvv (m2 j (by omega)).1] at q1
        rw [yvv (k2 j hj).2, yvv (m2 j (by omega)).2] at q2
        rw [← pair_says (hf j hj).1 (hf j hj).2, ← pair_says (hg j (by omega)).1 (hg j (by omega)).2, q1, q2]
      · rintro ⟨rfl, e2⟩
        refine ⟨by omega, fun i hi => ?_⟩
        rcases Nat.mod_two_eq_zero_or_one i with e | e
        · obtain ⟨j, rfl⟩ : ∃ j, i = 2 * j := ⟨i / 2, by omega⟩
          rw [yvv (k2 j (by omega)).1, yvv (m2 j (by omega)).1, e2 j (by omega)]
        · obtain ⟨j, rfl⟩ : ∃ j, i = 2 * j + 1 := ⟨i / 2, by omega⟩
          rw [yvv (k2 j (by omega)).2, yvv (m2 j (by omega)).2, e2 j (by omega)]
/-- two codings differ: so do the texts -/
theorem Cod.dif {cd cd' : Int32} {n k : Nat} {f g : Nat → Int32} {V V' : Cell} (h : Cod cd n f V) (h' : Cod cd' k g V') (hne : ¬ cd = cd') : ¬ SameT n f k g := by
  rintro ⟨rfl, e⟩
  rcases h with ⟨rfl, -, k2⟩ | ⟨rfl, -, -, j, hj, hw⟩
  · rcases h' with ⟨rfl, -⟩ | ⟨-, -, -, j, hj, hw⟩
    · exact hne rfl
    · exact (k2 j hj).2 (by rw [e j hj]; exact hw)
  · rcases h' with ⟨-, -, m2⟩ | ⟨rfl, -⟩
    · exact (m2 j hj).2 (by rw [← e j hj]; exact hw)
    · exact hne rfl
/-- an object of exactly C is an instance of C -/
theorem cinst {p : Program} {l : Launch} {e : Env} {R : Room} {s : State} {m : MethodId} {args : Array Value} {below : List Frame} {meth : Method} {c : Code} {T : State} {locs : List Loc} {cells slots : Nat} (X : Stand p l e R s m args below meth c T locs cells slots) (hexec : p.tables.exec = Jvm.exec) {own C : String} {index : Nat} (hown : s.vm.findClass own = some m.cls) (hlink : (Cond.classLink own index C).before args s = true) {a : Addr} (hE : Exact C a T)
    {g : JFrame} (hg : g.method = m) {rest : List Value} (hstack : g.stack = .ref a :: rest) (hdg : decode c.code g.pc = .ok (.instanceof index, 3)) :
    ∃ T', Stand p l e R s m args below meth c T' locs cells slots ∧ T'.heap = T.heap ∧ ∀ target, Steps p.tables e below (T'.setTop { g with pc := g.pc + 3, stack := .int 1 :: rest }) target → Steps p.tables e below (T.setTop g) target := by
  obtain ⟨cB, h1, D, h2, h3, h4⟩ := hE
  have h1' : s.vm.findClass C = some cB := by rw [← X.warmed.alike.findClass]; exact h1
  obtain ⟨vm', X', st⟩ := X.instanceofYes hexec hown hlink h2 h4 h1' (by rw [h3]; exact Jvm.Free.SB.assignable_self _ _) hg hstack hdg
  exact ⟨_, X', rfl, st⟩
theorem cself {p : Program} {l : Launch} {e : Env} {R : Room} {s : State} {m : MethodId} {args : Array Value} {below : List Frame} {meth : Method} {c : Code} {T : State} {locs : List Loc} {cells slots : Nat} (X : Stand p l e R s m args below meth c T locs cells slots) (hexec : p.tables.exec = Jvm.exec) {own C : String} {index : Nat} (hown : s.vm.findClass own = some m.cls) (hlink : (Cond.classLink own index C).before args s = true) {a : Addr} (hE : Exact C a T)
    {g : JFrame} (hg : g.method = m) {rest : List Value} (hstack : g.stack = .ref a :: rest) (hdg : decode c.code g.pc = .ok (.checkcast index, 3)) :
    ∃ T', Stand p l e R s m args below meth c T' locs cells slots ∧ T'.heap = T.heap ∧ ∀ target, Steps p.tables e below (T'.setTop { g with pc := g.pc + 3, stack := .ref a :: rest }) target → Steps p.tables e below (T.setTop g) target := by
  obtain ⟨cB, h1, D, h2, h3, h4⟩ := hE
  have h1' : s.vm.findClass C = some cB := by rw [← X.warmed.alike.findClass]; exact h1
  obtain ⟨vm', X', st⟩ := X.checkcastYes hexec hown hlink h2 h4 h1' (by rw [h3]; exact Jvm.Free.SB.assignable_self _ _) hg hstack hdg
  exact ⟨_, X', rfl, fun t h => st t (by rw [← hstack] at h; exact h)⟩
namespace SEq
def yN : MethodName := ⟨"java/lang/String", "equals", "(Ljava/lang/Object;)Z"⟩
abbrev yB : ByteArray := jdk_42_method_66_code
theorem d0 : decode yB 0 = .ok (.aload_n 0, 1) := by decide +kernel
theorem d1 : decode yB 1 = .ok (.aload_n 1, 1) := by decide +kernel
theorem d2 : decode yB 2 = .ok (.if_acmp (.ne) 5, 3) := by decide +kernel
theorem d5 : decode yB 5 = .ok (.iconst 1, 1) := by decide +kernel
theorem d6 : decode yB 6 = .ok (.ireturn, 1) := by decide +kernel
theorem d7 : decode yB 7 = .ok (.aload_n 1, 1) := by decide +kernel
theorem d8 : decode yB 8 = .ok (.instanceof 10, 3) := by decide +kernel
theorem d11 : decode yB 11 = .ok (.ifCond (.eq) 43, 3) := by decide +kernel
theorem d14 : decode yB 14 = .ok (.aload_n 1, 1) := by decide +kernel
theorem d15 : decode yB 15 = .ok (.checkcast 10, 3) := by decide +kernel
theorem d18 : decode yB 18 = .ok (.astore_n 2, 1) := by decide +kernel
theorem d19 : decode yB 19 = .ok (.getstatic 38, 3) := by decide +kernel
theorem d22 : decode yB 22 = .ok (.ifCond (.eq) 14, 3) := by decide +kernel
theorem d25 : decode yB 25 = .ok (.aload_n 0, 1) := by decide +kernel
theorem d26 : decode yB 26 = .ok (.getfield 15, 3) := by decide +kernel
theorem d29 : decode yB 29 = .ok (.aload_n 2, 1) := by decide +kernel
theorem d30 : decode yB 30 = .ok (.getfield 15, 3) := by decide +kernel
theorem d33 : decode yB 33 = .ok (.if_icmp (.ne) 21, 3) := by decide +kernel
theorem d36 : decode yB 36 = .ok (.aload_n 0, 1) := by decide +kernel
theorem d37 : decode yB 37 = .ok (.getfield 9, 3) := by decide +kernel
theorem d40 : decode yB 40 = .ok (.aload_n 2, 1) := by decide +kernel
theorem d41 : decode yB 41 = .ok (.getfield 9, 3) := by decide +kernel
theorem d44 : decode yB 44 = .ok (.invokestatic 541, 3) := by decide +kernel
theorem d47 : decode yB 47 = .ok (.ifCond (.eq) 7, 3) := by decide +kernel
theorem d50 : decode yB 50 = .ok (.iconst 1, 1) := by decide +kernel
theorem d51 : decode yB 51 = .ok (.goto 4, 3) := by decide +kernel
theorem d54 : decode yB 54 = .ok (.iconst 0, 1) := by decide +kernel
theorem d55 : decode yB 55 = .ok (.ireturn, 1) := by decide +kernel
def site : List Cond := [.classLink "java/lang/String" 10 "java/lang/String", .fieldLink "java/lang/String" 38 "java/lang/String" "COMPACT_STRINGS" "Z", .fieldLink "java/lang/String" 15 "java/lang/String" "coder" "B", .fieldLink "java/lang/String" 9 "java/lang/String" "value" "[B", LEq.tab] ++ staticW "java/lang/String" 541 LEq.yN
def tab : Cond := tabOf yN yB 3 (some .boolean) site
def P (x t : Addr) (V : Cell) (cd : Int32) (n : Nat) (f : Nat → Int32) (y t' : Addr) (V' : Cell) (cd' : Int32) (k : Nat) (g : Nat → Int32) (z : Int32) (args : Array Value) (s : State) : Prop := args = #[.ref x, .ref y] ∧ Txt x t V cd n f s ∧ Txt y t' V' cd' k g s ∧ StaticIs s "java/lang/String" "COMPACT_STRINGS" "Z" (.int z) ∧ ¬ z = 0
/-- equals(Object) of two Strings: whether the texts are the same -/
theorem law (l : Launch) (x t : Addr) (V : Cell) (cd : Int32) (n : Nat) (f : Nat → Int32) (y t' : Addr) (V' : Cell) (cd' : Int32) (k : Nat) (g : Nat → Int32) (z : Int32) : Law l yN 2 1 1 14 yB 3 (some .boolean) site (P x t V cd n f y t' V' cd' k g z) (Says01 (SameT n f k g)) [] 0 0 := by
  refine Law.of_walk (plainFor_of_name (by decide +kernel)) (by decide +kernel) (by decide +kernel) (by decide) (fun _ _ h => by rw [h.1]; rfl) (fun _ U U' hal hh h => ⟨h.1, h.2.1.mv hal hh, h.2.2.1.mv hal hh, h.2.2.2.1.there hal hh, h.2.2.2.2⟩) (fun r U U' V V' h1 hal h2 h => Says01.mv r U U' V V' h1 hal h2 h) ?_
  intro p e s m args below meth c s₁ X0 hexec hbytes hml hret hlk hnm hown hh0 W hP
  obtain ⟨rfl, hx, hy, s1, hz⟩ := hP
  have c1 : Steps p.tables e below (s₁.setTop (entryFrame m #[.ref x, .ref y] 3)) (s₁.setTop (mkF m 2 #[.val (.ref x), .val (.ref y), .unset] [.ref y, .ref x])) := Steps.trans (entry rfl) (by
    show Steps p.tables e below (s₁.setTop (mkF m 0 #[.val (.ref x), .val (.ref y), .unset] [])) _
    refine XS.aloadN X0.here hexec rfl (hb hbytes d0) rfl rfl ?_
    refine XS.aloadN X0.here hexec rfl (hb hbytes d1) rfl rfl ?_
    exact Steps.refl _)
  by_cases hxy : x = y
  · have c2 : Steps p.tables e below (s₁.setTop (entryFrame m #[.ref x, .ref y] 3)) (s₁.setTop (mkF m 6 #[.val (.ref x), .val (.ref y), .unset] [.int 1])) := c1.trans (by
      refine acmpNo X0.here hexec rfl (hb hbytes d2) rfl rfl rfl (by simp [acmp, hxy]) ?_
      refine iconstV X0.here hexec rfl 1 (hb hbytes d5) (by decide) ?_
      exact Steps.refl _)
    subst hxy
    have ec : cd = cd' := by
      obtain ⟨D, fd, a1, a2, a3⟩ := hx.2.2.1
      obtain ⟨D', fd', b1, b2, b3⟩ := hy.2.2.1
      cases a1.symm.trans b1
      obtain ⟨q1, q2, q3, q4⟩ := a2.1
      obtain ⟨r1, r2, r3, r4⟩ := b2.1
      cases q4.symm.trans r4
      cases a3.symm.trans b3; rfl
    have et : t = t' := by
      obtain ⟨D, fd, a1, a2, a3⟩ := hx.2.1
      obtain ⟨D', fd', b1, b2, b3⟩ := hy.2.1
      cases a1.symm.trans b1
      obtain ⟨q1, q2, q3, q4⟩ := a2.1
      obtain ⟨r1, r2, r3, r4⟩ := b2.1
      cases q4.symm.trans r4
      cases a3.symm.trans b3; rfl
    subst ec et
    have ev : V = V' := by cases hx.2.2.2.1.1.symm.trans hy.2.2.2.1.1; rfl
    subst ev
    have hs : SameT n f k g := (Cod.eqv hx.2.2.2.2.1 hy.2.2.2.2.1 hx.2.2.2.2.2 hy.2.2.2.2.2).mp ⟨rfl, fun _ _ => rfl⟩
    exact ⟨s₁, some (.int 1), _, _, _, X0, rfl, rfl, rfl, (fun h => by cases h), ⟨1, rfl, hh0, Or.inl ⟨rfl, hs⟩⟩, fun fs hl => c2.trans (X0.ireturnOut hexec hret rfl (Or.inr (Or.inl rfl)) (hb hbytes d6) hl)⟩
  · have c2 : Steps p.tables e below (s₁.setTop (entryFrame m #[.ref x, .ref y] 3)) (s₁.setTop (mkF m 8 #[.val (.ref x), .val (.ref y), .unset] [.ref y])) := c1.trans (by
      refine acmpYes X0.here hexec rfl (pc0 := 2) rfl (hb hbytes d2) rfl rfl rfl (by simp [acmp, hxy]) (by decide) rfl ?_
      refine XS.aloadN X0.here hexec rfl (hb hbytes d7) rfl rfl ?_
      exact Steps.refl _)
    obtain ⟨T3, X3, q3, st3⟩ := cinst X0 hexec hown (wk W (.classLink "java/lang/String" 10 "java/lang/String")) (hy.mv X0.warmed.alike hh0).1 (g := (mkF m 8 #[.val (.ref x), .val (.ref y), .unset] [.ref y])) rfl (rest := []) rfl (hb hbytes d8)
    have hh3 := q3.trans hh0
    have c4 : Steps p.tables e below (s₁.setTop (entryFrame m #[.ref x, .ref y] 3)) (T3.setTop (mkF m 15 #[.val (.ref x), .val (.ref y), .unset] [.ref y])) := (c2.trans (st3 _ (Steps.refl _))).trans (by
      refine XS.ifNo X3.here hexec rfl (hb hbytes d11) rfl (i0_eq_f (by decide)) ?_
      refine XS.aloadN X3.here hexec rfl (hb hbytes d14) rfl rfl ?_
      exact Steps.refl _)
    obtain ⟨T5, X5, q5, st5⟩ := cself X3 hexec hown (wk W (.classLink "java/lang/String" 10 "java/lang/String")) (hy.mv X3.warmed.alike hh3).1 (g := (mkF m 15 #[.val (.ref x), .val (.ref y), .unset] [.ref y])) rfl (rest := []) rfl (hb hbytes d15)
    have hh5 := q5.trans hh3
    have c6 : Steps p.tables e below (s₁.setTop (entryFrame m #[.ref x, .ref y] 3)) (T5.setTop (mkF m 19 #[.val (.ref x), .val (.ref y), .val (.ref y)] [])) := (c4.trans (st5 _ (Steps.refl _))).trans (by
      refine XS.astoreN X5.here hexec rfl (hb hbytes d18) rfl rfl rfl ?_
      exact Steps.refl _)
    obtain ⟨T7, X7, q7, st7⟩ := X5.sget hexec hown (wk W (.fieldLink "java/lang/String" 38 "java/lang/String" "COMPACT_STRINGS" "Z")) s1 (fun _ _ h => by rw [hh5]; exact h) (g := (mkF m 19 #[.val (.ref x), .val (.ref y), .val (.ref y)] [])) rfl (hb hbytes d19)
    have hh7 := q7.trans hh5
    have c8 : Steps p.tables e below (s₁.setTop (entryFrame m #[.ref x, .ref y] 3)) (T7.setTop (mkF m 26 #[.val (.ref x), .val (.ref y), .val (.ref y)] [.ref x])) := (c6.trans (st7 _ (Steps.refl _))).trans (by
      refine XS.ifNo X7.here hexec rfl (hb hbytes d22) rfl (i0_eq_f hz) ?_
      refine XS.aloadN X7.here hexec rfl (hb hbytes d25) rfl rfl ?_
      exact Steps.refl _)
    obtain ⟨T9, X9, q9, st9⟩ := X7.hget hexec hown (wk W (.fieldLink "java/lang/String" 15 "java/lang/String" "coder" "B")) (hx.mv X7.warmed.alike hh7).2.2.1 (g := (mkF m 26 #[.val (.ref x), .val (.ref y), .val (.ref y)] [.ref x])) rfl (rest := []) rfl (hb hbytes d26)
    have hh9 := q9.trans hh7
    have c10 : Steps p.tables e below (s₁.setTop (entryFrame m #[.ref x, .ref y] 3)) (T9.setTop (mkF m 30 #[.val (.ref x), .val (.ref y), .val (.ref y)] [.ref y, .int cd])) := (c8.trans (st9 _ (Steps.refl _))).trans (by
      refine XS.aloadN X9.here hexec rfl (hb hbytes d29) rfl rfl ?_
      exact Steps.refl _)
    obtain ⟨T11, X11, q11, st11⟩ := X9.hget hexec hown (wk W (.fieldLink "java/lang/String" 15 "java/lang/String" "coder" "B")) (hy.mv X9.warmed.alike hh9).2.2.1 (g := (mkF m 30 #[.val (.ref x), .val (.ref y), .val (.ref y)] [.ref y, .int cd])) rfl (rest := [.int cd]) rfl (hb hbytes d30)
    have hh11 := q11.trans hh9
    have c12 : Steps p.tables e below (s₁.setTop (entryFrame m #[.ref x, .ref y] 3)) (T11.setTop (mkF m 33 #[.val (.ref x), .val (.ref y), .val (.ref y)] [.int cd', .int cd])) := c10.trans (st11 _ (Steps.refl _))
    by_cases hcd : cd = cd'
    · subst hcd
      have c13 : Steps p.tables e below (s₁.setTop (entryFrame m #[.ref x, .ref y] 3)) (T11.setTop (mkF m 37 #[.val (.ref x), .val (.ref y), .val (.ref y)] [.ref x])) := c12.trans (by
        refine XS.icmpNo X11.here hexec rfl (hb hbytes d33) rfl (ii_ne_f rfl) ?_
        refine XS.aloadN X11.here hexec rfl (hb hbytes d36) rfl rfl ?_
        exact Steps.refl _)
      obtain ⟨T14, X14, q14, st14⟩ := X11.hget hexec hown (wk W (.fieldLink "java/lang/String" 9 "java/lang/String" "value" "[B")) (hx.mv X11.warmed.alike hh11).2.1 (g := (mkF m 37 #[.val (.ref x), .val (.ref y), .val (.ref y)] [.ref x])) rfl (rest := []) rfl (hb hbytes d37)
      have hh14 := q14.trans hh11
      have c15 : Steps p.tables e below (s₁.setTop (entryFrame m #[.ref x, .ref y] 3)) (T14.setTop (mkF m 41 #[.val (.ref x), .val (.ref y), .val (.ref y)] [.ref y, .ref t])) := (c13.trans (st14 _ (Steps.refl _))).trans (by
        refine XS.aloadN X14.here hexec rfl (hb hbytes d40) rfl rfl ?_
        exact Steps.refl _)
      obtain ⟨T16, X16, q16, st16⟩ := X14.hget hexec hown (wk W (.fieldLink "java/lang/String" 9 "java/lang/String" "value" "[B")) (hy.mv X14.warmed.alike hh14).2.1 (g := (mkF m 41 #[.val (.ref x), .val (.ref y), .val (.ref y)] [.ref y, .ref t])) rfl (rest := [.ref t]) rfl (hb hbytes d41)
      have hh16 := q16.trans hh14
      have c17 : Steps p.tables e below (s₁.setTop (entryFrame m #[.ref x, .ref y] 3)) (T16.setTop (mkF m 44 #[.val (.ref x), .val (.ref y), .val (.ref y)] [.ref t', .ref t])) := c15.trans (st16 _ (Steps.refl _))
      obtain ⟨v18, T18, X18, E18, g18⟩ := X16.callS hexec (LEq.law l t V t' V') hown (wks W (staticW "java/lang/String" 541 LEq.yN)) (wk W LEq.tab) (W := 0) (Nat.le_of_ble_eq_true rfl) (Nat.le_of_ble_eq_true rfl) (Nat.le_refl _) (Nat.le_refl _) (g := (mkF m 44 #[.val (.ref x), .val (.ref y), .val (.ref y)] [.ref t', .ref t])) rfl (by rw [hml]; rfl) c17 (argsL := [.ref t, .ref t']) (rest := []) rfl rfl (by show 2 * 0 + 0 ≤ _; decide) (hb hbytes d44) (⟨rfl, hx.2.2.2.1.mv X16.warmed.alike hh16, hx.2.2.2.2.1.ty, hy.2.2.2.1.mv X16.warmed.alike hh16, hy.2.2.2.2.1.ty⟩)
      obtain ⟨v, rfl, q18, hv⟩ := E18
      have iff := Cod.eqv hx.2.2.2.2.1 hy.2.2.2.2.1 hx.2.2.2.2.2 hy.2.2.2.2.2
      rcases hv with ⟨rfl, he⟩ | ⟨rfl, he⟩
      · have c19 : Steps p.tables e below (s₁.setTop (entryFrame m #[.ref x, .ref y] 3)) (T18.setTop (mkF m 55 #[.val (.ref x), .val (.ref y), .val (.ref y)] [.int 1])) := Steps.trans g18 (by
          refine XS.ifNo X18.here hexec rfl (hb hbytes d47) rfl (i0_eq_f (by decide)) ?_
          refine iconstV X18.here hexec rfl 1 (hb hbytes d50) (by decide) ?_
          refine XS.goto X18.here hexec rfl (pc0 := 51) rfl (hb hbytes d51) (by decide) rfl ?_
          exact Steps.refl _)
        exact ⟨T18, some (.int 1), _, _, _, X18, rfl, rfl, rfl, (fun h => by cases h), ⟨1, rfl, q18.trans hh16, Or.inl ⟨rfl, iff.mp he⟩⟩, fun fs hl => c19.trans (X18.ireturnOut hexec hret rfl (Or.inr (Or.inl rfl)) (hb hbytes d55) hl)⟩
      · have c19 : Steps p.tables e below (s₁.setTop (entryFrame m #[.ref x, .ref y] 3)) (T18.setTop (mkF m 55 #[.val (.ref x), .val (.ref y), .val (.ref y)] [.int 0])) := Steps.trans g18 (by
          refine XS.ifYes X18.here hexec rfl (pc0 := 47) rfl (hb hbytes d47) rfl (i0_eq_t rfl) (by decide) rfl ?_
          refine iconstV X18.here hexec rfl 0 (hb hbytes d54) (by decide) ?_
          exact Steps.refl _)
        exact ⟨T18, some (.int 0), _, _, _, X18, rfl, rfl, rfl, (fun h => by cases h), ⟨0, rfl, q18.trans hh16, Or.inr ⟨rfl, fun q => he (iff.mpr q)⟩⟩, fun fs hl => c19.trans (X18.ireturnOut hexec hret rfl (Or.inr (Or.inl rfl)) (hb hbytes d55) hl)⟩
    · have c13 : Steps p.tables e below (s₁.setTop (entryFrame m #[.ref x, .ref y] 3)) (T11.setTop (mkF m 55 #[.val (.ref x), .val (.ref y), .val (.ref y)] [.int 0])) := c12.trans (by
        refine XS.icmpYes X11.here hexec rfl (pc0 := 33) rfl (hb hbytes d33) rfl (ii_ne_t hcd) (by decide) rfl ?_
        refine iconstV X11.here hexec rfl 0 (hb hbytes d54) (by decide) ?_
        exact Steps.refl _)
      exact ⟨T11, some (.int 0), _, _, _, X11, rfl, rfl, rfl, (fun h => by cases h), ⟨0, rfl, hh11, Or.inr ⟨rfl, Cod.dif hx.2.2.2.2.1 hy.2.2.2.2.1 hcd⟩⟩, fun fs hl => c13.trans (X11.ireturnOut hexec hret rfl (Or.inr (Or.inl rfl)) (hb hbytes d55) hl)⟩
theorem pays {l : Launch} {R : Room} {p : Program} {e : Env} {below : List Frame} {s : State} {sargs : Array Value} {len W : Nat} (x t : Addr) (V : Cell) (cd : Int32) (n : Nat) (f : Nat → Int32) (y t' : Addr) (V' : Cell) (cd' : Int32) (k : Nat) (g : Nat → Int32) (z : Int32) (htab : tab.before sargs s = true) (hfr : 2 ≤ R.frames) (hlo : W + 28 ≤ R.locals) :
    Back l R p e below s sargs yN len W (fun A₁ a₁ => A₁.cells + 0 ≤ R.cells ∧ A₁.slots + 0 ≤ R.slots ∧ P x t V cd n f y t' V' cd' k g z a₁ A₁.U) (fun A₁ _ v₁ B₁ => Says01 (SameT n f k g) v₁ A₁.U B₁.U ∧ B₁.locs = A₁.locs ++ [] ∧ B₁.cells = A₁.cells + 0 ∧ B₁.slots = A₁.slots + 0) :=
  (law l x t V cd n f y t' V' cd' k g z).pays htab hfr (by omega)
end SEq
end StrChars
namespace StrChars.Road
open Jvm Sem ClassFile Op Lib Jvm.Stand Jvm.Free Jvm.Free.XT
open Jvm.Lib.Cold (StaticIs)
/-- the words of String.equals(Object) -/
abbrev wordsEq : List Jvm.Cond := [.code SEq.yN SEq.yB 3 (some .boolean), .initialized ST, .classLink ST 10 ST, .fieldLink ST 38 ST "COMPACT_STRINGS" "Z", .fieldLink ST 15 ST "coder" "B", .fieldLink ST 9 ST "value" "[B", .methodLink ST 541 LEq.yN, .static LEq.yN, .code LEq.yN LEq.yB 3 (some .boolean), .initialized "java/lang/StringLatin1"]
theorem tabEq_of {a : Array Value} {s : State} (h : ∀ w ∈ wordsEq, w.before a s = true) : SEq.tab.before a s = true := by
  have hl : LEq.tab.before a s = true := unparts (wk h (.code LEq.yN LEq.yB 3 (some .boolean))) (wks h (.initialized LEq.yN.cls :: LEq.site))
  have q := consq hl h
  exact unparts (wk q (.code SEq.yN SEq.yB 3 (some .boolean))) (wks q (.initialized SEq.yN.cls :: SEq.site))
theorem movedEq {Z s : State} {a0 args : Array Value} (hZ : Z.Warmed39 s.vm) (hw : ∀ d ∈ wordsEq, d.before a0 Z = true) : ∀ d ∈ wordsEq, d.before args s = true := fun d hd => by
  have t : ∀ d ∈ wordsEq, (d.onTables && d.keepsFace) = true := by decide +kernel
  exact RoadKit.mv hZ (hw d hd) (t d hd)
/-- the road's facts of a String, as the laws ask it -/
theorem txt_of {Z U : State} {a0 : Array Value} {kI : Nat} (wi : (Jvm.Cond.instantiable ST kI).before a0 Z = true) (al : Z.vm.Alike U.vm) {x t : Addr} {kb : ClassId} {cs : List Int32} {cd N2 : Int32} {vs : List Value} (E : RoadKit.Exa Z U.heap x ST) (V : RoadKit.Fld Z U.heap x ST "value" "[B" (.ref t)) (C : RoadKit.Fld Z U.heap x ST "coder" "B" (.int cd)) (K : RoadKit.Arv Z U.heap t kb .byte N2 vs (.int 0)) (hc : CodA cs cd N2 vs) (hb : ∀ c ∈ cs, ¬ c < 0 ∧ ¬ (65535 : Int32) < c) (l2 : cs.length ≤ 4000) :
    ∃ A, Txt x t A cd cs.length (fun j => cs.getD j 0) U := by
  obtain ⟨A, K1, K2, K3, K4, K5, K6⟩ := K
  have hcod := hc.cod (by omega) K3 K5
  obtain ⟨D, fV, fC, hB, F1, F2, g1, g2, -, -⟩ := strObj wi al E V C
  exact ⟨A, ⟨_, hB.2.2.1, D, hB.1, rfl, by cases q : D.vm <;> first | rfl | exact absurd q (hB.2.1.2 _)⟩, Has.of hB F1 g1, Has.of hB F2 g2, ⟨K1.1, State.isArrayOf_alike al K1.2.1, K1.2.2, by rcases hcod with ⟨-, q, -⟩ | ⟨-, q, -⟩ <;> omega⟩, hcod, fun j hj => by
    have e : cs.getD j 0 = cs[j] := by simp [List.getD_eq_getElem?_getD, hj]
    show ¬ cs.getD j 0 < 0 ∧ ¬ 65535 < cs.getD j 0
    rw [e]; exact hb _ (List.getElem_mem _)⟩
theorem same_list (cs ds : List Int32) : SameT cs.length (fun j => cs.getD j 0) ds.length (fun j => ds.getD j 0) ↔ cs = ds := by
  constructor
  · rintro ⟨e, q⟩
    refine List.ext_getElem e fun j h1 h2 => ?_
    have := q j h1
    simpa [List.getD_eq_getElem?_getD, h1, h2] using this
  · rintro rfl
    exact ⟨rfl, fun _ _ => rfl⟩
/-- **equals(Object) OF TWO SUCH STRINGS**: 1 just where the chars are the same -/
theorem eqW {p : Program} {l : Launch} {e : Env} {R : Room} {s : State} {args : Array Value} {below : List Frame} {len W : Nat} {Z : State} {a0 : Array Value} {h : Heap} (hZ : Z.Warmed39 s.vm) (hw : ∀ d ∈ wordsEq, d.before a0 Z = true) {kI : Nat} (wi : (Jvm.Cond.instantiable ST kI).before a0 Z = true)
    {x t : Addr} {kb : ClassId} {cs : List Int32} {cd N2 : Int32} {vs : List Value} (E : RoadKit.Exa Z h x ST) (V : RoadKit.Fld Z h x ST "value" "[B" (.ref t)) (C : RoadKit.Fld Z h x ST "coder" "B" (.int cd)) (K : RoadKit.Arv Z h t kb .byte N2 vs (.int 0)) (hc : CodA cs cd N2 vs) (hb : ∀ c ∈ cs, ¬ c < 0 ∧ ¬ (65535 : Int32) < c) (l2 : cs.length ≤ 4000)
    {y t' : Addr} {kb' : ClassId} {ds : List Int32} {cd' N2' : Int32} {vs' : List Value} (E' : RoadKit.Exa Z h y ST) (V' : RoadKit.Fld Z h y ST "value" "[B" (.ref t')) (C' : RoadKit.Fld Z h y ST "coder" "B" (.int cd')) (K' : RoadKit.Arv Z h t' kb' .byte N2' vs' (.int 0)) (hc' : CodA ds cd' N2' vs') (hb' : ∀ c ∈ ds, ¬ c < 0 ∧ ¬ (65535 : Int32) < c) (l2' : ds.length ≤ 4000)
    {z : Int32} (S : RoadKit.Sta Z h ST "COMPACT_STRINGS" "Z" (.int z)) (hz : ¬ z = 0) (hfr : 2 ≤ R.frames) (hlo : W + 28 ≤ R.locals) :
    Back l R p e below s args (⟨"java/lang/String", "equals", "(Ljava/lang/Object;)Z"⟩ : MethodName) len W (fun P a => a = #[.ref x, .ref y] ∧ P.U.heap = h ∧ P.cells + 0 ≤ R.cells ∧ P.slots + 0 ≤ R.slots)
      (fun P _ v B => ∃ L, (((v = some (.int 1) ∧ cs = ds) ∨ (v = some (.int 0) ∧ ¬ cs = ds)) ∧ L = [] ∧ B.U.heap = h) ∧ B.locs = P.locs ++ L ∧ B.cells = P.cells + 0 ∧ B.slots = P.slots + 0) := by
  intro m meth c P g ig mk a X hg hsize hdg hW hn hp'
  obtain ⟨rfl, rfl, r1, r2⟩ := hp'
  have al : Z.vm.Alike P.U.vm := hZ.alike.trans X.warmed.alike
  obtain ⟨A, hx⟩ := txt_of wi al E V C K hc hb l2
  obtain ⟨A', hy⟩ := txt_of wi al E' V' C' K' hc' hb' l2'
  obtain ⟨v, B, X', ⟨⟨w, hv, hh, hq⟩, hl, hk, hs⟩, st⟩ := SEq.pays x t A cd cs.length (fun j => cs.getD j 0) y t' A' cd' ds.length (fun j => ds.getD j 0) z (tabEq_of (movedEq hZ hw)) hfr hlo m meth c P g ig mk _ X hg hsize hdg hW hn ⟨r1, r2, rfl, hx, hy, sta_is al S, hz⟩
  refine ⟨v, B, X', ⟨[], ⟨?_, rfl, hh⟩, hl, hk, hs⟩, st⟩
  rcases hq with ⟨rfl, q⟩ | ⟨rfl, q⟩
  · exact Or.inl ⟨hv, (same_list cs ds).mp q⟩
  · exact Or.inr ⟨hv, fun e => q ((same_list cs ds).mpr e)⟩
end StrChars.Road
namespace StrChars.Road
open Jvm Sem ClassFile Op Lib Jvm.Stand Jvm.Free Jvm.Free.XT
open Jvm.Lib.Cold (StaticIs)
/-- what backV says of its String, as the contracts of this text ask it: cs's low bytes, coder 0 -/
theorem codOf {cs : List Int32} {n : Nat} (hn : cs.length = n) (hb : ∀ c ∈ cs, ¬ 255 < c) : CodA cs 0 (Int32.ofNat n) ((cs.map lo8).map Value.int) := Or.inl ⟨rfl, by rw [hn], by simp [List.map_map, Function.comp_def], hb⟩
end StrChars.Road
end Jvm.Pilot.@@N@@
namespace Jvm.Pilot.@@N@@
open Jvm Jvm.ClassFile Sem Op Lib Jvm.Free Jvm.Stand Jvm.LawKit Jvm.RoadKit Bundle Jvm.Pilot.@@N@@.Jvm.D

def own_EL : List (String × Nat) := [("java/lang/String", 7)]
theorem own_txt18 : (∀ c ∈ "".toList, c.toNat < 256) ∧ "".toList.map (fun c => Value.int (Jvm.Lit.byteI c.toNat.toUInt16)) = [] := ⟨fun c hc => by simp at hc, rfl⟩
theorem own_hEL {Z : State} {a0 : Array Value} (hw : ∀ d ∈ tables_1, d.before a0 Z = true) : EW Z a0 own_EL := EW.cons (hw _ (List.mem_of_getElem? (i := 18) rfl)) own_txt18.1 EW.nil
theorem own_wS {Z : State} {a0 : Array Value} (hw : ∀ d ∈ tables_1, d.before a0 Z = true) : ∀ a ∈ Bundle.stringAtoms, a.before a0 Z = true := by
  intro a ha
  simp only [Bundle.stringAtoms, List.mem_cons, List.not_mem_nil, or_false] at ha
  rcases ha with rfl | rfl | rfl | rfl | rfl | rfl | rfl
  · exact (hw _ (List.mem_of_getElem? (i := 6) rfl))
  · exact (hw _ (List.mem_of_getElem? (i := 5) rfl))
  · exact (hw _ (List.mem_of_getElem? (i := 19) rfl))
  · exact (hw _ (List.mem_of_getElem? (i := 20) rfl))
  · exact (hw _ (List.mem_of_getElem? (i := 21) rfl))
  · exact (hw _ (List.mem_of_getElem? (i := 22) rfl))
  · exact (hw _ (List.mem_of_getElem? (i := 23) rfl))
/-- a String whose value is null is no booked one -/
theorem own_safeN {Z : State} {EL : List (String × Nat)} {vm : Vm} {h : Heap} {x : Addr} (hal : Z.vm.Alike vm) (E : Exa Z h x "java/lang/String") (F : Fld Z h x "java/lang/String" "value" "[B" .null) : Safe Z EL vm h x := fun B => by
  obtain ⟨p, -, u, a, -, q, -, G, hy⟩ := B
  rcases hy with rfl | rfl
  · obtain ⟨cS, ⟨⟨s1, s2, s3, ⟨cv, kv, iv, s4, s4'⟩, ⟨cc, kc, ic, s5, s5'⟩, s6, s7, s8, s9, s10, s11, s12, s13, s14, s15, s16⟩, hfS, hcS⟩, ⟨kS, k1, k2, k3⟩, hB, hbyt⟩ := G
    obtain ⟨kv', z4⟩ := ff_back (U := Wst Z vm h) hal s4
    have G' : Fld Z h q.sa "java/lang/String" "value" "[B" (.ref q.sd) := ⟨q.sC, cv, kv', iv, q.fSV, s1, z4, s6, s2, s3, by rw [← hal.assignable]; exact s4', s8⟩
    exact Fld.ne F G' (by simp) rfl
  · obtain ⟨cell, k, e1, e2, e3, -, -⟩ := E
    cases (show h[q.sd]? = some q.SA from G.hd).symm.trans e1
    obtain ⟨cS, -, -, f, -⟩ := G
    have f' : vm.findClass "[B" = some q.SA.cls := f
    rw [hal.findClass] at f'
    obtain ⟨k1, a1, a2⟩ := Vm.findClass_spec f'
    obtain ⟨k2, b1, b2⟩ := Vm.findClass_spec e2
    cases a1.symm.trans b1
    exact absurd (a2.symm.trans b2) (by decide)
theorem own_ch255 (x : Int32) : ¬ nar .char ((x &&& (255 : Int32)).toUInt32.toUInt16.toUInt32.toInt32) < 0 ∧ ¬ (255 : Int32) < nar .char ((x &&& (255 : Int32)).toUInt32.toUInt16.toUInt32.toInt32) := by
  have t : ∀ k : Fin 256, ¬ nar .char ((Int32.ofNat k.val).toUInt32.toUInt16.toUInt32.toInt32) < 0 ∧ ¬ (255 : Int32) < nar .char ((Int32.ofNat k.val).toUInt32.toUInt16.toUInt32.toInt32) := by decide +kernel
  have h : (x &&& 255).toBitVec.toNat < 256 := by
    simp only [Int32.toBitVec_and, BitVec.toNat_and]
    exact Nat.lt_succ_of_le Nat.and_le_right
  have e : (x &&& 255) = Int32.ofNat (x &&& 255).toBitVec.toNat := by
    apply Int32.toBitVec_inj.mp
    show _ = BitVec.ofNat 32 _
    rw [BitVec.ofNat_toNat]; simp
  rw [e]
  exact t ⟨_, h⟩

def own_c (p k : Int32) : Int32 := (((XT.ushr p ((2 : Int32) + ((8 : Int32) * k))) &&& (255 : Int32)).toUInt32.toUInt16.toUInt32.toInt32)
theorem own_c_all (x : Int32) : nar .char ((x &&& (255 : Int32)).toUInt32.toUInt16.toUInt32.toInt32) = (x &&& (255 : Int32)).toUInt32.toUInt16.toUInt32.toInt32 ∧ ¬ (x &&& (255 : Int32)).toUInt32.toUInt16.toUInt32.toInt32 < 0 ∧ ¬ (255 : Int32) < (x &&& (255 : Int32)).toUInt32.toUInt16.toUInt32.toInt32 := by
  have t : ∀ k : Fin 256, nar .char ((Int32.ofNat k.val).toUInt32.toUInt16.toUInt32.toInt32) = (Int32.ofNat k.val).toUInt32.toUInt16.toUInt32.toInt32 ∧ ¬ (Int32.ofNat k.val).toUInt32.toUInt16.toUInt32.toInt32 < 0 ∧ ¬ (255 : Int32) < (Int32.ofNat k.val).toUInt32.toUInt16.toUInt32.toInt32 := by decide +kernel
  have h : (x &&& 255).toBitVec.toNat < 256 := by
    simp only [Int32.toBitVec_and, BitVec.toNat_and]
    exact Nat.lt_succ_of_le Nat.and_le_right
  have e : (x &&& 255) = Int32.ofNat (x &&& 255).toBitVec.toNat := by
    apply Int32.toBitVec_inj.mp
    show _ = BitVec.ofNat 32 _
    rw [BitVec.ofNat_toNat]; simp
  rw [e]
  exact t ⟨_, h⟩
theorem own_nc (p k : Int32) : nar .char (own_c p k) = own_c p k := (own_c_all _).1
theorem own_cr (p k : Int32) : ¬ own_c p k < 0 ∧ ¬ (255 : Int32) < own_c p k := (own_c_all _).2
theorem own_m (x : Int32) : x &&& 3 = 0 ∨ x &&& 3 = 1 ∨ x &&& 3 = 2 ∨ x &&& 3 = 3 := by
  have h : (x &&& 3).toBitVec = 0#32 ∨ (x &&& 3).toBitVec = 1#32 ∨ (x &&& 3).toBitVec = 2#32 ∨ (x &&& 3).toBitVec = 3#32 := by
    have e : (x &&& 3).toBitVec = x.toBitVec &&& 3#32 := rfl
    rw [e]
    have hb : (x.toBitVec &&& 3#32).toNat = x.toBitVec.toNat % 4 := by
      rw [BitVec.toNat_and]; exact Nat.and_two_pow_sub_one_eq_mod _ 2
    have hl : x.toBitVec.toNat % 4 < 4 := Nat.mod_lt _ (by decide)
    rcases (by omega : x.toBitVec.toNat % 4 = 0 ∨ x.toBitVec.toNat % 4 = 1 ∨ x.toBitVec.toNat % 4 = 2 ∨ x.toBitVec.toNat % 4 = 3) with q | q | q | q
    · exact Or.inl (BitVec.eq_of_toNat_eq (by rw [hb, q]; rfl))
    · exact Or.inr (Or.inl (BitVec.eq_of_toNat_eq (by rw [hb, q]; rfl)))
    · exact Or.inr (Or.inr (Or.inl (BitVec.eq_of_toNat_eq (by rw [hb, q]; rfl))))
    · exact Or.inr (Or.inr (Or.inr (BitVec.eq_of_toNat_eq (by rw [hb, q]; rfl))))
  rcases h with h | h | h | h
  · exact Or.inl (Int32.toBitVec_inj.mp h)
  · exact Or.inr (Or.inl (Int32.toBitVec_inj.mp h))
  · exact Or.inr (Or.inr (Or.inl (Int32.toBitVec_inj.mp h)))
  · exact Or.inr (Or.inr (Or.inr (Int32.toBitVec_inj.mp h)))
/-- the chars that str spells -/
def own_cs (p : Int32) : List Int32 := if p &&& 3 = 0 then [] else if p &&& 3 = 1 then [own_c p 0] else if p &&& 3 = 2 then [own_c p 0, own_c p 1] else [own_c p 0, own_c p 1, own_c p 2]
theorem own_cs0 {p : Int32} (h : p &&& 3 = 0) : own_cs p = [] := by rw [own_cs, if_pos h]
theorem own_cs1 {p : Int32} (h : p &&& 3 = 1) : own_cs p = [own_c p 0] := by rw [own_cs, h]; rfl
theorem own_cs2 {p : Int32} (h : p &&& 3 = 2) : own_cs p = [own_c p 0, own_c p 1] := by rw [own_cs, h]; rfl
theorem own_cs3 {p : Int32} (h : p &&& 3 = 3) : own_cs p = [own_c p 0, own_c p 1, own_c p 2] := by rw [own_cs, h]; rfl
def own_ok (A : List Int32) : Prop := (∀ c ∈ A, ¬ c < 0 ∧ ¬ (255 : Int32) < c) ∧ A.length ≤ 4000
theorem own_ok1 (p a : Int32) : own_ok [own_c p a] := ⟨fun c hc => by
  simp only [List.mem_cons, List.not_mem_nil, or_false] at hc; subst hc; exact own_cr _ _, by simp⟩
theorem own_ok2 (p a b : Int32) : own_ok [own_c p a, own_c p b] := ⟨fun c hc => by
  simp only [List.mem_cons, List.not_mem_nil, or_false] at hc; rcases hc with rfl | rfl <;> exact own_cr _ _, by simp⟩
theorem own_ok3 (p a b d : Int32) : own_ok [own_c p a, own_c p b, own_c p d] := ⟨fun c hc => by
  simp only [List.mem_cons, List.not_mem_nil, or_false] at hc; rcases hc with rfl | rfl | rfl <;> exact own_cr _ _, by simp⟩
theorem own_oks (p : Int32) : own_ok (own_cs p) := by
  rcases own_m p with h | h | h | h
  · rw [own_cs0 h]; exact ⟨fun c hc => (by cases hc), by simp⟩
  · rw [own_cs1 h]; exact own_ok1 _ _
  · rw [own_cs2 h]; exact own_ok2 _ _ _
  · rw [own_cs3 h]; exact own_ok3 _ _ _ _
theorem own_cs_ne {p q : Int32} (hne : ¬ (p &&& 3 = q &&& 3)) : ¬ own_cs p = own_cs q := by
  rcases own_m p with h | h | h | h <;> rcases own_m q with g | g | g | g <;>
  first
  | exact absurd (h.trans g.symm) hne
  | (intro e
     first | rw [own_cs0 h] at e | rw [own_cs1 h] at e | rw [own_cs2 h] at e | rw [own_cs3 h] at e
     first | rw [own_cs0 g] at e | rw [own_cs1 g] at e | rw [own_cs2 g] at e | rw [own_cs3 g] at e
     simp at e)
def own_same (p q : Int32) : Int32 := if own_cs p = own_cs q then 1 else 0
/-- a String that spells cs -/
def own_S (Z : State) (h : Heap) (x : Addr) (cs : List Int32) : Prop := Exa Z h x "java/lang/String" ∧ Fld Z h x "java/lang/String" "coder" "B" (.int 0) ∧ ∃ (t : Addr) (kb : ClassId), Fld Z h x "java/lang/String" "value" "[B" (.ref t) ∧ Arv Z h t kb .byte (Int32.ofNat cs.length) ((cs.map StrChars.lo8).map Value.int) (.int 0)
section OwnS
variable {Z : State} {h h' : Heap} {x w : Addr} {cs : List Int32} {C : String} {a0 : Array Value} {n : Nat}
theorem own_S.lt (F : own_S Z h x cs) : x < h.size := F.1.lt
theorem own_S.ext (F : own_S Z h x cs) (E : Ext h h') : own_S Z h' x cs := by
  obtain ⟨a, b, t, kb, c, d⟩ := F; exact ⟨a.ext E, b.ext E, t, kb, c.ext E, d.ext E⟩
theorem own_S.keep0 (F : own_S Z h x cs) (K : Keep h h' []) : own_S Z h' x cs := by
  obtain ⟨a, b, t, kb, c, d⟩ := F; exact ⟨a.keep K, b.keep K nin0, t, kb, c.keep K nin0, d.keep K nin0⟩
theorem own_S.keep1 (F : own_S Z h x cs) (K : Keep h h' [w]) (ne : x ≠ w) (E : Exa Z h w C) (wi : (Jvm.Cond.instantiable C n).before a0 Z = true) : own_S Z h' x cs := by
  obtain ⟨a, b, t, kb, c, d⟩ := F
  exact ⟨a.keep K, b.keep K (ninS ne nin0), t, kb, c.keep K (ninS ne nin0), d.keep K (ninS (Exa.neArv E d wi).symm nin0)⟩
end OwnS
def own_rel (o0 o1 o2 o3 : Addr) (i : Int32) : Addr := if i = 0 then o0 else if i = 1 then o1 else if i = 2 then o2 else o3
theorem own_rel_inj {o0 o1 o2 o3 : Addr} (h01 : o0 ≠ o1) (h02 : o0 ≠ o2) (h03 : o0 ≠ o3) (h12 : o1 ≠ o2) (h13 : o1 ≠ o3) (h23 : o2 ≠ o3) {i j : Int32} (hi : i = 0 ∨ i = 1 ∨ i = 2 ∨ i = 3) (hj : j = 0 ∨ j = 1 ∨ j = 2 ∨ j = 3) : own_rel o0 o1 o2 o3 i = own_rel o0 o1 o2 o3 j ↔ i = j := by
  have e0 : own_rel o0 o1 o2 o3 0 = o0 := rfl
  have e1 : own_rel o0 o1 o2 o3 1 = o1 := rfl
  have e2 : own_rel o0 o1 o2 o3 2 = o2 := rfl
  have e3 : own_rel o0 o1 o2 o3 3 = o3 := rfl
  constructor
  · intro e
    rcases hi with rfl | rfl | rfl | rfl <;> rcases hj with rfl | rfl | rfl | rfl <;> first
      | rfl
      | (simp only [e0, e1, e2, e3] at e
         first | exact absurd e h01 | exact absurd e h02 | exact absurd e h03 | exact absurd e h12 | exact absurd e h13 | exact absurd e h23 | exact absurd e.symm h01 | exact absurd e.symm h02 | exact absurd e.symm h03 | exact absurd e.symm h12 | exact absurd e.symm h13 | exact absurd e.symm h23)
  · rintro rfl; rfl
def own_e (A1 A2 : List Int32) (r1 r2 : Addr) (B1 B2 : List Int32) : Int32 := if A1 = A2 then (if r1 = r2 then (if B1 = B2 then 1 else 0) else 0) else 0
theorem own_e_symm (A1 A2 : List Int32) (r1 r2 : Addr) (B1 B2 : List Int32) : own_e A2 A1 r2 r1 B2 B1 = own_e A1 A2 r1 r2 B1 B2 := by
  unfold own_e
  by_cases h1 : A1 = A2
  · by_cases h2 : r1 = r2
    · by_cases h3 : B1 = B2
      · rw [if_pos h1, if_pos h2, if_pos h3, if_pos h1.symm, if_pos h2.symm, if_pos h3.symm]
      · rw [if_pos h1, if_pos h2, if_neg h3, if_pos h1.symm, if_pos h2.symm, if_neg (fun q => h3 q.symm)]
    · rw [if_pos h1, if_neg h2, if_pos h1.symm, if_neg (fun q => h2 q.symm)]
  · rw [if_neg h1, if_neg (fun q => h1 q.symm)]
theorem own_e_self (A : List Int32) (r : Addr) (B : List Int32) : own_e A A r r B B = 1 := by simp [own_e]
theorem own_up {cs : List Int32} (h : own_ok cs) : ∀ c ∈ cs, ¬ c < 0 ∧ ¬ (65535 : Int32) < c := fun c hc => ⟨(h.1 c hc).1, fun q => (h.1 c hc).2 (by rw [Int32.lt_iff_toInt_lt] at q ⊢; have e1 : (65535 : Int32).toInt = 65535 := rfl; have e2 : (255 : Int32).toInt = 255 := rfl; omega)⟩
/-- a String is no K, where K is an ordinary class other than String and Object -/
theorem own_notK {Z : State} {a0 : Array Value} {h : Heap} {a : Addr} {K : String} {n : Nat} (E : Exa Z h a "java/lang/String") (w1 : (Jvm.Cond.superclass "java/lang/String" "java/lang/Object").before a0 Z = true) (w3 : (Jvm.Cond.noSuperclass "java/lang/Object").before a0 Z = true)
    (wi : (Jvm.Cond.instantiable K n).before a0 Z = true) (hn : K ≠ "java/lang/String" ∧ K ≠ "java/lang/Object") : Ins Z h a K false := by
  obtain ⟨cell, k, e1, e2, e3, e4, -⟩ := E
  obtain ⟨cO, kL, kO, hfO, hkL, hkO, hsL, hoL, -, -⟩ := Cond.superclass_spec e2 w1
  obtain ⟨cO', kO', hfO', hkO', hsO, -, -⟩ := Cond.noSuperclass_spec w3
  cases hfO.symm.trans hfO'
  cases hkO.symm.trans hkO'
  obtain ⟨cK, kK, i1, i2, i3, i4, -⟩ := Cond.instantiable_spec wi
  have dist : ∀ {C : String} {c : ClassId}, Z.vm.findClass C = some c → K ≠ C → c ≠ cK := fun hc hne e => by
    subst e
    obtain ⟨k1, q1, q2⟩ := Vm.findClass_spec hc
    obtain ⟨k2, r1, r2⟩ := Vm.findClass_spec i1
    cases q1.symm.trans r1
    exact hne (r2.symm.trans q2)
  have d1 := dist e2 hn.1
  have d3 := dist hfO hn.2
  have sub : ∀ fuel, Z.vm.isSubclassAux fuel cell.cls cK = false := fun fuel => by
    match fuel with
    | 0 => rfl
    | 1 => simp [Vm.isSubclassAux, d1, hkL, hsL]
    | f + 2 => simp [Vm.isSubclassAux, d1, d3, hkL, hsL, hkO, hsO]
  have hif : kK.isInterface = false := by simpa using (Bool.or_eq_false_iff.mp i4).1
  have ha : Z.vm.assignable cell.cls cK = false := by
    show Z.vm.assignableAux (255 + 1) cell.cls cK = false
    simp [Vm.assignableAux, d1, hkL, i2, hoL, i3, hif, Vm.isSubclass, sub]
  exact ⟨cell, cK, e1, i1, by rw [ha]; simp⟩
theorem own_fi {args : Array Value} {s : State} {t : Term} {C n d : String} {k : Int32} {x : Addr} (h : (Jvm.Cond.eq (.field t C n d) (.int k)).value args s none s [] = some true) (ht : t.eval args s none [] s = some (.ref x)) : Fld s s.heap x C n d (.int k) := by
  apply Fld.start
  simp only [Cond.value, fld_at ht, Term.int_eval] at h
  cases hf : s.fieldOf? x C n d with
  | none => simp [hf] at h
  | some v => cases v <;> simp [hf] at h ⊢; exact h
theorem own_bits (q : Prop) [Decidable q] (a b : Int32) (P : Int32 → Prop) (ha : P a) (hb : P b) : P (if q then a else b) := by
  by_cases h : q
  · rw [if_pos h]; exact ha
  · rw [if_neg h]; exact hb
theorem ef_rm2e (m : MethodId) (x0 : Addr) (x1 : Addr) (x2 : Int32) (x3 : Int32) : entryFrame m #[(.ref x0), (.ref x1), (.int x2), (.int x3), .null] 6 = mkF m 0 #[.val (.ref x0), .val (.ref x1), .val (.int x2), .val (.int x3), .val .null, .unset] [] := by first | (simp [entryFrame, mkF, argsToLocals, Value.category]; done) | rfl
theorem pn_0 : plainName "java/lang/String" = true := by first | (simp [plainName, overriddenIn]; done) | decide +kernel
theorem d3_0 : decode jdk_42_method_149_code 0 = .ok (.aload_n 0, 1) := by decide +kernel
theorem d3_1 : decode jdk_42_method_149_code 1 = .ok (.invokespecial 1, 3) := by decide +kernel
theorem d3_4 : decode jdk_42_method_149_code 4 = .ok (.iload_n 3, 1) := by decide +kernel
theorem d3_5 : decode jdk_42_method_149_code 5 = .ok (.ifCond .ne 22, 3) := by decide +kernel
theorem d3_8 : decode jdk_42_method_149_code 8 = .ok (.aload_n 0, 1) := by decide +kernel
theorem d3_9 : decode jdk_42_method_149_code 9 = .ok (.ldc 7, 2) := by decide +kernel
theorem d3_11 : decode jdk_42_method_149_code 11 = .ok (.getfield 9, 3) := by decide +kernel
theorem d3_14 : decode jdk_42_method_149_code 14 = .ok (.putfield 9, 3) := by decide +kernel
theorem d3_17 : decode jdk_42_method_149_code 17 = .ok (.aload_n 0, 1) := by decide +kernel
theorem d3_18 : decode jdk_42_method_149_code 18 = .ok (.ldc 7, 2) := by decide +kernel
theorem d3_20 : decode jdk_42_method_149_code 20 = .ok (.getfield 15, 3) := by decide +kernel
theorem d3_23 : decode jdk_42_method_149_code 23 = .ok (.putfield 15, 3) := by decide +kernel
theorem d3_26 : decode jdk_42_method_149_code 26 = .ok (.return_, 1) := by decide +kernel
def Q_rm2e (Z : State) (a b : Addr) (h0 : Heap) (n0 : Nat) (v : Option Value) (h : Heap) (L : List Loc) : Prop := v = none ∧ Fr n0 L ∧ Keep h0 h [a] ∧ Exa Z h a "java/lang/String" ∧ Fld Z h a "java/lang/String" "coder" "B" (.int 0) ∧ ∃ (t : Addr) (kb : ClassId), Fld Z h a "java/lang/String" "value" "[B" (.ref t) ∧ Arv Z h t kb .byte 0 [] (.int 0)
set_option maxRecDepth 65536 in
set_option maxHeartbeats 40000000 in
theorem rm2e (l : Launch) (Z : State) (a0 : Array Value) (hw : ∀ d ∈ tables_1, d.before a0 Z = true) (ws : List Jvm.Cond) (a b : Addr) (h0 : Heap) (n0 : Nat) (Z0 : n0 ≤ h0.size) (E_a : Exa Z h0 a "java/lang/String") (F_value : Fld Z h0 a "java/lang/String" "value" "[B" .null) (F_coder : Fld Z h0 a "java/lang/String" "coder" "B" (.int 0)) (g_a : n0 ≤ a) :
    MetFree l (⟨"java/lang/String", "<init>", "([CIILjava/lang/Void;)V"⟩ : MethodName) (head1 (Jvm.Cond.code (⟨"java/lang/String", "<init>", "([CIILjava/lang/Void;)V"⟩ : MethodName) jdk_42_method_149_code 6 none :: ws) ({ frames := 1, cells := 4, slots := 8, locals := 12 } : Room)) (fun ag U => ag = #[(.ref a), (.ref b), (.int (0 : Int32)), (.int (0 : Int32)), .null] ∧ Z.Warmed39 U.vm ∧ U.heap = h0 ∧ CHv Z own_EL U.vm h0) (fun _ _ _ _ _ => True) (fun _ U o U' => ∃ v L, o = .returned v ∧ Q_rm2e Z a b h0 n0 v U'.heap L ∧ CHr Z own_EL U.vm U.heap U'.vm U'.heap ∧ ReturnedEndW U o U' L ({ frames := 1, cells := 4, slots := 8, locals := 12 } : Room).cells ({ frames := 1, cells := 4, slots := 8, locals := 12 } : Room).slots) := by
  refine MetFree.of_bodySF (plainFor_of_name pn_0) hisR ?_
  intro p e s m args below meth c s₁ Bd hml0 hP hK
  obtain ⟨rfl, hZ, hh, hCH⟩ := hP
  have hx := Bd.exec
  have hby := Bd.bytes
  have hml : c.maxLocals = 6 := hml0
  have hown : s.vm.findClass "java/lang/String" = some m.cls := findClass_of_methodNamed Bd.named
  have hnm := (name_of_methodNamed Bd.named Bd.method).1
  have hZ0 : Z.Warmed39 (s.setVm s.vm).vm := hZ
  have hown0 : (s.setVm s.vm).vm.findClass "java/lang/String" = some m.cls := hown
  have hS0 : s.Since s.vm 0 := (State.WarmedH.refl s).since 0
  have hk0 : 0 ≤ h0.size := Nat.zero_le _
  have CR0 : CHr Z own_EL s.vm h0 s.vm h0 := CHr.refl hCH
  have hEL : EW Z a0 own_EL := own_hEL hw
  have wS := own_wS hw
  have X0 : Stand p l e ({ frames := 1, cells := 4, slots := 8, locals := 12 } : Room) (s.setVm s.vm) m #[(.ref a), (.ref b), (.int (0 : Int32)), (.int (0 : Int32)), .null] below meth c s₁ [] 0 0 := Stand.of_body Bd
  have e0 : s₁.heap = h0 := by rw [← hh, Bd.state]; rfl
  have N0 := Fr.nil n0
  refine own_start (ef_rm2e m a b (0 : Int32) (0 : Int32)) ?_
  intro F hF
  show own_Gl p.tables e below F (s₁.setTop (mkF m 0 #[.val (.ref a), .val (.ref b), .val (.int (0 : Int32)), .val (.int (0 : Int32)), .val .null, .unset] []))
  have SFa : Safe Z own_EL s.vm h0 a := own_safeN hZ0.alike E_a F_value
  refine own_go (fun _ k => XS.aloadN X0.here hx rfl (hb hby d3_0) rfl rfl k) ?_
  show own_Gl p.tables e below F (s₁.setTop (mkF m 1 #[.val (.ref a), .val (.ref b), .val (.int (0 : Int32)), .val (.int (0 : Int32)), .val .null, .unset] [(.ref a)]))
  obtain ⟨T1, X1, e1, st1⟩ := initO X0 hx hZ0 hown0 (hw _ (List.mem_of_getElem? (i := 15) rfl)) (hw _ (List.mem_of_getElem? (i := 16) rfl)) (hw _ (List.mem_of_getElem? (i := 17) rfl)) e0 (g := (mkF m 1 #[.val (.ref a), .val (.ref b), .val (.int (0 : Int32)), .val (.int (0 : Int32)), .val .null, .unset] [(.ref a)])) rfl (by rw [hml]; rfl) rfl (hb hby d3_1) (by decide) (W := 0) (by show 2 * 0 + _ ≤ _; exact Nat.le_of_eq rfl) (by decide)
  refine own_go st1 ?_
  show own_Gl p.tables e below F (T1.setTop (mkF m 4 #[.val (.ref a), .val (.ref b), .val (.int (0 : Int32)), .val (.int (0 : Int32)), .val .null, .unset] []))
  refine own_go (fun _ k => XS.iloadN X1.here hx rfl (hb hby d3_4) rfl k) ?_
  show own_Gl p.tables e below F (T1.setTop (mkF m 5 #[.val (.ref a), .val (.ref b), .val (.int (0 : Int32)), .val (.int (0 : Int32)), .val .null, .unset] [(.int (0 : Int32))]))
  refine own_go (fun _ k => XS.ifNo X1.here hx rfl (hb hby d3_5) rfl (XT.i0_ne_f rfl) k) ?_
  show own_Gl p.tables e below F (T1.setTop (mkF m 8 #[.val (.ref a), .val (.ref b), .val (.int (0 : Int32)), .val (.int (0 : Int32)), .val .null, .unset] []))
  refine own_go (fun _ k => XS.aloadN X1.here hx rfl (hb hby d3_8) rfl rfl k) ?_
  show own_Gl p.tables e below F (T1.setTop (mkF m 9 #[.val (.ref a), .val (.ref b), .val (.int (0 : Int32)), .val (.int (0 : Int32)), .val .null, .unset] [(.ref a)]))
  obtain ⟨la2, T2, h2, kk2, lb2, lk2, X2, e2, E2, hS2, hk2, hZ2, hown2, LE2, LC2, LV2, LA2, -, -, hC2, -, hN2, st2⟩ := ldcCH X1 hx hZ0 hown0 (hw _ (List.mem_of_getElem? (i := 18) rfl)) wS e1 hS0 hk0 hEL (by simp [own_EL]) CR0.1 (vs := []) (z := 0) own_txt18 (by decide) rfl (g := (mkF m 9 #[.val (.ref a), .val (.ref b), .val (.int (0 : Int32)), .val (.int (0 : Int32)), .val .null, .unset] [(.ref a)])) rfl (hb hby d3_9) (n := 0) (by decide) (by decide) (by first | decide | exact Nat.le_of_ble_eq_true rfl) (by first | decide | exact Nat.le_of_ble_eq_true rfl)
  have CR2 := CR0.trans hC2
  have sf2_0 := hC2.safe E_a.lt SFa
  have f2_0 := E_a.ext E2
  have f2_1 := F_value.ext E2
  have f2_2 := F_coder.ext E2
  have Z2 : n0 ≤ h2.size := Nat.le_trans Z0 E2.1
  have K2 := Keep.ext (Keep.refl h0 [a]) E2
  have X2 : Stand _ _ _ _ _ _ _ _ _ _ _ _ 2 4 := X2
  refine own_go st2 ?_
  show own_Gl p.tables e below F (T2.setTop (mkF m 11 #[.val (.ref a), .val (.ref b), .val (.int (0 : Int32)), .val (.int (0 : Int32)), .val .null, .unset] [(.ref la2), (.ref a)]))
  obtain ⟨T3, X3, e3, st3⟩ := getF X2 hx hZ2 hown2 (host := "") (Or.inl (hw _ (List.mem_of_getElem? (i := 24) rfl))) Via.refl e2 LV2 (g := (mkF m 11 #[.val (.ref a), .val (.ref b), .val (.int (0 : Int32)), .val (.int (0 : Int32)), .val .null, .unset] [(.ref la2), (.ref a)])) rfl rfl (hb hby d3_11)
  refine own_go st3 ?_
  show own_Gl p.tables e below F (T3.setTop (mkF m 14 #[.val (.ref a), .val (.ref b), .val (.int (0 : Int32)), .val (.int (0 : Int32)), .val .null, .unset] [(.ref lb2), (.ref a)]))
  obtain ⟨T4, h4, X4, e4, W4, st4⟩ := putF X3 hx hZ2 hown2 (host := "") (Or.inl (hw _ (List.mem_of_getElem? (i := 24) rfl))) Via.refl e3 f2_1 f2_0 (Or.inr ⟨(hw _ (List.mem_of_getElem? (i := 20) rfl)), rfl, hnm⟩) (hw _ (List.mem_of_getElem? (i := 5) rfl)) (ty := (.array .byte)) (by decide) rfl rfl (g := (mkF m 14 #[.val (.ref a), .val (.ref b), .val (.int (0 : Int32)), .val (.int (0 : Int32)), .val .null, .unset] [(.ref lb2), (.ref a)])) rfl rfl (hb hby d3_14)
  have Fw4 := f2_1.same W4
  have f4_1 := f2_0.wr W4
  have f4_3 := f2_2.other W4 (Or.inr (slot_ne (Or.inr (hw _ (List.mem_of_getElem? (i := 21) rfl))) (Or.inr (hw _ (List.mem_of_getElem? (i := 20) rfl))) (by decide) (t := .byte) (t' := (.array .byte)) (by decide) (by decide)))
  have f4_4 := LE2.wr W4
  have f4_5 := LC2.other W4 (Or.inl (Ne.symm (hN2 a sf2_0).1))
  have f4_6 := LV2.other W4 (Or.inl (Ne.symm (hN2 a sf2_0).1))
  have f4_7 := LA2.other W4 (Ne.symm (hN2 a sf2_0).2)
  have Z4 : n0 ≤ h4.size := by rw [W4.size]; exact Z2
  have K4 := Keep.wr K2 W4 (Or.inl (by simp))
  have sf4_0 := Safe.wr W4 sf2_0 CR2.1 sf2_0
  have CR4 := CR2.trans (CHr.wr W4 sf2_0 CR2.1)
  have hk4 : kk2 ≤ h4.size := by rw [W4.size]; exact hk2
  have N4 := Fr.snoc X4 N0 g_a
  refine own_go st4 ?_
  show own_Gl p.tables e below F (T4.setTop (mkF m 17 #[.val (.ref a), .val (.ref b), .val (.int (0 : Int32)), .val (.int (0 : Int32)), .val .null, .unset] []))
  refine own_go (fun _ k => XS.aloadN X4.here hx rfl (hb hby d3_17) rfl rfl k) ?_
  show own_Gl p.tables e below F (T4.setTop (mkF m 18 #[.val (.ref a), .val (.ref b), .val (.int (0 : Int32)), .val (.int (0 : Int32)), .val .null, .unset] [(.ref a)]))
  obtain ⟨la5, T5, h5, kk5, lb5, lk5, X5, e5, E5, hS5, hk5, hZ5, hown5, LE5, LC5, LV5, LA5, -, -, hC5, -, hN5, st5⟩ := ldcCH X4 hx hZ2 hown2 (hw _ (List.mem_of_getElem? (i := 18) rfl)) wS e4 hS2 hk4 hEL (by simp [own_EL]) CR4.1 (vs := []) (z := 0) own_txt18 (by decide) rfl (g := (mkF m 18 #[.val (.ref a), .val (.ref b), .val (.int (0 : Int32)), .val (.int (0 : Int32)), .val .null, .unset] [(.ref a)])) rfl (hb hby d3_18) (n := 0) (by decide) (by decide) (by first | decide | exact Nat.le_of_ble_eq_true rfl) (by first | decide | exact Nat.le_of_ble_eq_true rfl)
  have CR5 := CR4.trans hC5
  have sf5_0 := hC5.safe f4_1.lt sf4_0
  have f5_0 := f4_1.ext E5
  have f5_1 := Fw4.ext E5
  have f5_2 := f4_3.ext E5
  have f5_3 := f4_4.ext E5
  have f5_4 := f4_5.ext E5
  have f5_5 := f4_6.ext E5
  have f5_6 := f4_7.ext E5
  have Z5 : n0 ≤ h5.size := Nat.le_trans Z4 E5.1
  have K5 := Keep.ext K4 E5
  have X5 : Stand _ _ _ _ _ _ _ _ _ _ _ _ 4 8 := X5
  refine own_go st5 ?_
  show own_Gl p.tables e below F (T5.setTop (mkF m 20 #[.val (.ref a), .val (.ref b), .val (.int (0 : Int32)), .val (.int (0 : Int32)), .val .null, .unset] [(.ref la5), (.ref a)]))
  obtain ⟨T6, X6, e6, st6⟩ := getF X5 hx hZ5 hown5 (host := "") (Or.inl (hw _ (List.mem_of_getElem? (i := 25) rfl))) Via.refl e5 LC5 (g := (mkF m 20 #[.val (.ref a), .val (.ref b), .val (.int (0 : Int32)), .val (.int (0 : Int32)), .val .null, .unset] [(.ref la5), (.ref a)])) rfl rfl (hb hby d3_20)
  refine own_go st6 ?_
  show own_Gl p.tables e below F (T6.setTop (mkF m 23 #[.val (.ref a), .val (.ref b), .val (.int (0 : Int32)), .val (.int (0 : Int32)), .val .null, .unset] [(.int (0 : Int32)), (.ref a)]))
  obtain ⟨T7, h7, X7, e7, W7, st7⟩ := putFN X6 hx hZ5 hown5 (hw _ (List.mem_of_getElem? (i := 25) rfl)) Via.refl e6 f5_2 f5_0 (Or.inr ⟨(hw _ (List.mem_of_getElem? (i := 21) rfl)), rfl, hnm⟩) (hw _ (List.mem_of_getElem? (i := 5) rfl)) (ty := .byte) (v' := (.int (0 : Int32))) (by decide) rfl rfl (g := (mkF m 23 #[.val (.ref a), .val (.ref b), .val (.int (0 : Int32)), .val (.int (0 : Int32)), .val .null, .unset] [(.int (0 : Int32)), (.ref a)])) rfl rfl (hb hby d3_23)
  have Fw7 := f5_2.same W7
  have f7_1 := f5_0.wr W7
  have f7_2 := f5_1.other W7 (Or.inr (slot_ne (Or.inr (hw _ (List.mem_of_getElem? (i := 20) rfl))) (Or.inr (hw _ (List.mem_of_getElem? (i := 21) rfl))) (by decide) (t := (.array .byte)) (t' := .byte) (by decide) (by decide)))
  have f7_4 := f5_3.wr W7
  have f7_5 := f5_4.other W7 (Or.inl (Ne.symm (hN2 a sf2_0).1))
  have f7_6 := f5_5.other W7 (Or.inl (Ne.symm (hN2 a sf2_0).1))
  have f7_7 := f5_6.other W7 (Ne.symm (hN2 a sf2_0).2)
  have f7_8 := LE5.wr W7
  have f7_9 := LC5.other W7 (Or.inl (Ne.symm (hN5 a sf5_0).1))
  have f7_10 := LV5.other W7 (Or.inl (Ne.symm (hN5 a sf5_0).1))
  have f7_11 := LA5.other W7 (Ne.symm (hN5 a sf5_0).2)
  have Z7 : n0 ≤ h7.size := by rw [W7.size]; exact Z5
  have K7 := Keep.wr K5 W7 (Or.inl (by simp))
  have sf7_0 := Safe.wr W7 sf5_0 CR5.1 sf5_0
  have CR7 := CR5.trans (CHr.wr W7 sf5_0 CR5.1)
  have hk7 : kk5 ≤ h7.size := by rw [W7.size]; exact hk5
  have N7 := Fr.snoc X7 N4 g_a
  refine own_go st7 ?_
  show own_Gl p.tables e below F (T7.setTop (mkF m 26 #[.val (.ref a), .val (.ref b), .val (.int (0 : Int32)), .val (.int (0 : Int32)), .val .null, .unset] []))
  obtain ⟨fs, hr, hrun, hended, hRW⟩ := Jvm.Stand.leaveW X7 hS5 (by rw [e7]; exact hk7) (v := none) (fun _ => rfl)
  have CE : CHr Z own_EL s.vm s.heap T7.vm T7.heap := by rw [hh, e7]; exact CR7.trans (CHv.at X7 hZ5 hEL CR7.1)
  subst hF
  refine own_fin ?_ ⟨hrun, hended, _, _, rfl, ?_, CE, hRW.1, hRW.2.1, hRW.2.2.1, hRW.2.2.2.mono (by first | decide | exact Nat.le_of_ble_eq_true rfl) (by first | decide | exact Nat.le_of_ble_eq_true rfl)⟩
  · exact X7.returnOut hx Bd.returns (hb hby d3_26) hr
  · show Q_rm2e Z _ _ h0 n0 _ T7.heap _
    rw [e7]
    exact ⟨rfl, N7, K7, f7_1, Fw7, lb2, _, f7_2, f7_7⟩
theorem ef_rm1e (m : MethodId) (x0 : Addr) (x1 : Addr) : entryFrame m #[(.ref x0), (.ref x1)] 2 = mkF m 0 #[.val (.ref x0), .val (.ref x1)] [] := by first | (simp [entryFrame, mkF, argsToLocals, Value.category]; done) | rfl
theorem d2_0 : decode jdk_42_method_3_code 0 = .ok (.aload_n 0, 1) := by decide +kernel
theorem d2_1 : decode jdk_42_method_3_code 1 = .ok (.aload_n 1, 1) := by decide +kernel
theorem d2_2 : decode jdk_42_method_3_code 2 = .ok (.iconst 0, 1) := by decide +kernel
theorem d2_3 : decode jdk_42_method_3_code 3 = .ok (.aload_n 1, 1) := by decide +kernel
theorem d2_4 : decode jdk_42_method_3_code 4 = .ok (.arraylength, 1) := by decide +kernel
theorem d2_5 : decode jdk_42_method_3_code 5 = .ok (.aconst_null, 1) := by decide +kernel
theorem d2_6 : decode jdk_42_method_3_code 6 = .ok (.invokespecial 27, 3) := by decide +kernel
theorem pd_0 : parseMethodDescriptor "([CIILjava/lang/Void;)V" = some ⟨[(.array .char), .int, .int, (.object "java/lang/Void")], none⟩ := by decide +kernel
theorem d2_9 : decode jdk_42_method_3_code 9 = .ok (.return_, 1) := by decide +kernel
def Q_rm1e (Z : State) (a b : Addr) (kC : ClassId) (h0 : Heap) (n0 : Nat) (v : Option Value) (h : Heap) (L : List Loc) : Prop := v = none ∧ Fr n0 L ∧ Keep h0 h [a] ∧ Exa Z h a "java/lang/String" ∧ Fld Z h a "java/lang/String" "coder" "B" (.int 0) ∧ ∃ (t : Addr) (kb : ClassId), Fld Z h a "java/lang/String" "value" "[B" (.ref t) ∧ Arv Z h t kb .byte 0 [] (.int 0)
set_option maxRecDepth 65536 in
set_option maxHeartbeats 40000000 in
theorem rm1e (l : Launch) (Z : State) (a0 : Array Value) (hw : ∀ d ∈ tables_1, d.before a0 Z = true) (ws : List Jvm.Cond) (a b : Addr) (kC : ClassId) (h0 : Heap) (n0 : Nat) (Z0 : n0 ≤ h0.size) (E_a : Exa Z h0 a "java/lang/String") (F_value : Fld Z h0 a "java/lang/String" "value" "[B" .null) (F_coder : Fld Z h0 a "java/lang/String" "coder" "B" (.int 0)) (V_b : Arv Z h0 b kC .char 0 [] (.int 0)) (g_a : n0 ≤ a) :
    MetFree l (⟨"java/lang/String", "<init>", "([C)V"⟩ : MethodName) (head1 (Jvm.Cond.code (⟨"java/lang/String", "<init>", "([C)V"⟩ : MethodName) jdk_42_method_3_code 2 none :: ws) ({ frames := 2, cells := 4, slots := 8, locals := 29 } : Room)) (fun ag U => ag = #[(.ref a), (.ref b)] ∧ Z.Warmed39 U.vm ∧ U.heap = h0 ∧ CHv Z own_EL U.vm h0) (fun _ _ _ _ _ => True) (fun _ U o U' => ∃ v L, o = .returned v ∧ Q_rm1e Z a b kC h0 n0 v U'.heap L ∧ CHr Z own_EL U.vm U.heap U'.vm U'.heap ∧ ReturnedEndW U o U' L ({ frames := 2, cells := 4, slots := 8, locals := 29 } : Room).cells ({ frames := 2, cells := 4, slots := 8, locals := 29 } : Room).slots) := by
  refine MetFree.of_bodySF (plainFor_of_name pn_0) hisR ?_
  intro p e s m args below meth c s₁ Bd hml0 hP hK
  obtain ⟨rfl, hZ, hh, hCH⟩ := hP
  have hx := Bd.exec
  have hby := Bd.bytes
  have hml : c.maxLocals = 2 := hml0
  have hown : s.vm.findClass "java/lang/String" = some m.cls := findClass_of_methodNamed Bd.named
  have hnm := (name_of_methodNamed Bd.named Bd.method).1
  have hZ0 : Z.Warmed39 (s.setVm s.vm).vm := hZ
  have hown0 : (s.setVm s.vm).vm.findClass "java/lang/String" = some m.cls := hown
  have hS0 : s.Since s.vm 0 := (State.WarmedH.refl s).since 0
  have hk0 : 0 ≤ h0.size := Nat.zero_le _
  have CR0 : CHr Z own_EL s.vm h0 s.vm h0 := CHr.refl hCH
  have hEL : EW Z a0 own_EL := own_hEL hw
  have wS := own_wS hw
  have X0 : Stand p l e ({ frames := 2, cells := 4, slots := 8, locals := 29 } : Room) (s.setVm s.vm) m #[(.ref a), (.ref b)] below meth c s₁ [] 0 0 := Stand.of_body Bd
  have e0 : s₁.heap = h0 := by rw [← hh, Bd.state]; rfl
  have N0 := Fr.nil n0
  refine own_start (ef_rm1e m a b) ?_
  intro F hF
  show own_Gl p.tables e below F (s₁.setTop (mkF m 0 #[.val (.ref a), .val (.ref b)] []))
  refine own_go (fun _ k => XS.aloadN X0.here hx rfl (hb hby d2_0) rfl rfl k) ?_
  show own_Gl p.tables e below F (s₁.setTop (mkF m 1 #[.val (.ref a), .val (.ref b)] [(.ref a)]))
  refine own_go (fun _ k => XS.aloadN X0.here hx rfl (hb hby d2_1) rfl rfl k) ?_
  show own_Gl p.tables e below F (s₁.setTop (mkF m 2 #[.val (.ref a), .val (.ref b)] [(.ref b), (.ref a)]))
  refine own_go (fun _ k => XS.iconst X0.here hx rfl (hb hby d2_2) k) ?_
  show own_Gl p.tables e below F (s₁.setTop (mkF m 3 #[.val (.ref a), .val (.ref b)] [(.int (0 : Int32)), (.ref b), (.ref a)]))
  refine own_go (fun _ k => XS.aloadN X0.here hx rfl (hb hby d2_3) rfl rfl k) ?_
  show own_Gl p.tables e below F (s₁.setTop (mkF m 4 #[.val (.ref a), .val (.ref b)] [(.ref b), (.int (0 : Int32)), (.ref b), (.ref a)]))
  obtain ⟨cl1, Ar1, ak1, aS1, aN1, aH1, aG1⟩ := id V_b
  refine own_go (fun _ k => X0.arraylength hx (by rw [e0]; exact Ar1.1) (State.isArrayOf_alike hZ0.alike Ar1.2.1) (g := (mkF m 4 #[.val (.ref a), .val (.ref b)] [(.ref b), (.int (0 : Int32)), (.ref b), (.ref a)])) rfl rfl (hb hby d2_4) _ k) ?_
  rw [len_of aS1 aN1]
  show own_Gl p.tables e below F (s₁.setTop (mkF m 5 #[.val (.ref a), .val (.ref b)] [(.int (0 : Int32)), (.int (0 : Int32)), (.ref b), (.ref a)]))
  refine own_go (fun _ k => XS.aconstNull X0.here hx rfl (hb hby d2_5) k) ?_
  show own_Gl p.tables e below F (s₁.setTop (mkF m 6 #[.val (.ref a), .val (.ref b)] [.null, (.int (0 : Int32)), (.int (0 : Int32)), (.ref b), (.ref a)]))
  obtain ⟨_, _, ⟨T2, L2, k2, n2⟩, -, X2, hs2, hg2, ⟨Lc2, hQ2, l2, y2, z2, hC2⟩, st2⟩ := X0.specialBackS hx (y := (⟨"java/lang/String", "<init>", "([CIILjava/lang/Void;)V"⟩ : MethodName)) rfl hown0 (mvT hZ0 (hw _ (List.mem_of_getElem? (i := 11) rfl))) (mvT hZ0 (hw _ (List.mem_of_getElem? (i := 12) rfl))) (mvT hZ0 (hw _ (List.mem_of_getElem? (i := 14) rfl))) (by decide) (backOfSH (W := 0) (rm2e l Z a0 hw [] a b  h0 n0 Z0 E_a F_value F_coder g_a) hZ0 (hw _ (List.mem_of_getElem? (i := 14) rfl)) (hw _ (List.mem_of_getElem? (i := 6) rfl)) (by decide) (by decide) hEL CR0.1) (g := (mkF m 6 #[.val (.ref a), .val (.ref b)] [.null, (.int (0 : Int32)), (.int (0 : Int32)), (.ref b), (.ref a)])) rfl (by rw [hml]; rfl) (Steps.refl _) (a := a) (argsL := [(.ref b), (.int (0 : Int32)), (.int (0 : Int32)), .null]) (rest := []) (lenOf pd_0 rfl) rfl (by show 2 * 0 + _ ≤ _; exact Nat.le_of_eq rfl) (hb hby d2_6) (fun _ _ => ⟨rfl, e0, (by first | decide | exact Nat.le_of_ble_eq_true rfl), (by first | decide | exact Nat.le_of_ble_eq_true rfl)⟩)
  dsimp only [Pt.U, Pt.locs, Pt.cells, Pt.slots] at X2 l2 y2 z2 st2 hQ2 hs2 hg2 hC2
  obtain ⟨rfl, N2, K2, GE2, GC2, t2, kb2, GV2, GA2⟩ := hQ2
  have X2 := own_sn X2 (k' := 4) (n' := 8) y2 z2
  have NF2 := own_fr l2 N0 N2
  obtain ⟨XR2, hS2, hZ2, hown2⟩ := rebS hS0 (by rw [e0]; exact hk0) X2 hs2 hg2 hZ0 hown0
  have CR2 := CR0.trans hC2
  have f2_1 := E_a.keep K2
  have Z2 : n0 ≤ T2.heap.size := Nat.le_trans Z0 K2.1
  have KK2 := Keep.trans (Keep.refl h0 [a]) K2 (by intro z hz; simp at hz; rcases hz with rfl; all_goals first | (left; simp; done) | (right; assumption))
  have hk2 : T2.heap.size ≤ T2.heap.size := Nat.le_refl _
  refine own_go (fun _ k => st2.trans k) ?_
  show own_Gl p.tables e below F (T2.setTop (mkF m 9 #[.val (.ref a), .val (.ref b)] []))
  obtain ⟨fs, hr, hrun, hended, hRW⟩ := Jvm.Stand.leaveW XR2 hS2 (by exact hk2) (v := none) (fun _ => rfl)
  have CE : CHr Z own_EL s.vm s.heap T2.vm T2.heap := by rw [hh]; exact CR2.trans (CHv.at XR2 hZ2 hEL CR2.1)
  subst hF
  refine own_fin ?_ ⟨hrun, hended, _, _, rfl, ?_, CE, hRW.1, hRW.2.1, hRW.2.2.1, hRW.2.2.2.mono (by first | decide | exact Nat.le_of_ble_eq_true rfl) (by first | decide | exact Nat.le_of_ble_eq_true rfl)⟩
  · exact XR2.returnOut hx Bd.returns (hb hby d2_9) hr
  · show Q_rm1e Z _ _ _ h0 n0 _ T2.heap _
    exact ⟨rfl, NF2, KK2, GE2, GC2, t2, kb2, GV2, GA2⟩
theorem ef_rm5 (m : MethodId) (x0 : Int32) (x1 : Int32) : entryFrame m #[(.int x0), (.int x1)] 2 = mkF m 0 #[.val (.int x0), .val (.int x1)] [] := by first | (simp [entryFrame, mkF, argsToLocals, Value.category]; done) | rfl
theorem pn_1 : plainName "com/example/cores_from_twigs/coresfromtwigs/constraints/ConstraintEqualsPinLaw" = true := by first | (simp [plainName, overriddenIn]; done) | decide +kernel
theorem d5_0 : decode method_3_code 0 = .ok (.iload_n 0, 1) := by decide +kernel
theorem d5_1 : decode method_3_code 1 = .ok (.iconst 2, 1) := by decide +kernel
theorem d5_2 : decode method_3_code 2 = .ok (.bipush 8, 2) := by decide +kernel
theorem d5_4 : decode method_3_code 4 = .ok (.iload_n 1, 1) := by decide +kernel
theorem d5_5 : decode method_3_code 5 = .ok (.imul, 1) := by decide +kernel
theorem d5_6 : decode method_3_code 6 = .ok (.iadd, 1) := by decide +kernel
theorem d5_7 : decode method_3_code 7 = .ok (.iushr, 1) := by decide +kernel
theorem d5_8 : decode method_3_code 8 = .ok (.sipush 255, 3) := by decide +kernel
theorem d5_11 : decode method_3_code 11 = .ok (.iand, 1) := by decide +kernel
theorem d5_12 : decode method_3_code 12 = .ok (.i2c, 1) := by decide +kernel
theorem d5_13 : decode method_3_code 13 = .ok (.ireturn, 1) := by decide +kernel
def Q_rm5 (Z : State) (p1 p2 : Int32) (h0 : Heap) (n0 : Nat) (v : Option Value) (h : Heap) (L : List Loc) : Prop := v = some (.int (own_c p1 p2)) ∧ Fr n0 L ∧ h = h0
set_option maxRecDepth 65536 in
set_option maxHeartbeats 40000000 in
theorem rm5 (l : Launch) (Z : State) (a0 : Array Value) (hw : ∀ d ∈ tables_1, d.before a0 Z = true) (ws : List Jvm.Cond) (p1 p2 : Int32) (h0 : Heap) (n0 : Nat) (Z0 : n0 ≤ h0.size) :
    MetFree l (⟨"com/example/cores_from_twigs/coresfromtwigs/constraints/ConstraintEqualsPinLaw", "ch", "(II)C"⟩ : MethodName) (head1 (Jvm.Cond.code (⟨"com/example/cores_from_twigs/coresfromtwigs/constraints/ConstraintEqualsPinLaw", "ch", "(II)C"⟩ : MethodName) method_3_code 2 (some .char) :: ws) ({ frames := 0, cells := 0, slots := 0, locals := 0 } : Room)) (fun ag U => ag = #[(.int p1), (.int p2)] ∧ Z.Warmed39 U.vm ∧ U.heap = h0) (fun _ _ _ _ _ => True) (fun _ U o U' => ∃ v L, o = .returned v ∧ Q_rm5 Z p1 p2 h0 n0 v U'.heap L ∧ FrameEnd U o U' L ({ frames := 0, cells := 0, slots := 0, locals := 0 } : Room).cells ({ frames := 0, cells := 0, slots := 0, locals := 0 } : Room).slots) := by
  refine MetFree.of_bodySF (plainFor_of_name pn_1) hisR ?_
  intro p e s m args below meth c s₁ Bd hml0 hP hK
  obtain ⟨rfl, hZ, hh⟩ := hP
  have hx := Bd.exec
  have hby := Bd.bytes
  have hml : c.maxLocals = 2 := hml0
  have hown : s.vm.findClass "com/example/cores_from_twigs/coresfromtwigs/constraints/ConstraintEqualsPinLaw" = some m.cls := findClass_of_methodNamed Bd.named
  have hnm := (name_of_methodNamed Bd.named Bd.method).1
  have X0 : Stand p l e ({ frames := 0, cells := 0, slots := 0, locals := 0 } : Room) s m #[(.int p1), (.int p2)] below meth c s₁ [] 0 0 := Stand.of_body Bd
  have e0 : s₁.heap = h0 := by rw [← hh, Bd.state]; rfl
  have N0 := Fr.nil n0
  refine own_start (ef_rm5 m p1 p2) ?_
  intro F hF
  show own_Gl p.tables e below F (s₁.setTop (mkF m 0 #[.val (.int p1), .val (.int p2)] []))
  refine own_go (fun _ k => XS.iloadN X0.here hx rfl (hb hby d5_0) rfl k) ?_
  show own_Gl p.tables e below F (s₁.setTop (mkF m 1 #[.val (.int p1), .val (.int p2)] [(.int p1)]))
  refine own_go (fun _ k => XS.iconst X0.here hx rfl (hb hby d5_1) k) ?_
  show own_Gl p.tables e below F (s₁.setTop (mkF m 2 #[.val (.int p1), .val (.int p2)] [(.int (2 : Int32)), (.int p1)]))
  refine own_go (fun _ k => XS.bipush X0.here hx rfl (hb hby d5_2) k) ?_
  show own_Gl p.tables e below F (s₁.setTop (mkF m 4 #[.val (.int p1), .val (.int p2)] [(.int (8 : Int32)), (.int (2 : Int32)), (.int p1)]))
  refine own_go (fun _ k => XS.iloadN X0.here hx rfl (hb hby d5_4) rfl k) ?_
  show own_Gl p.tables e below F (s₁.setTop (mkF m 5 #[.val (.int p1), .val (.int p2)] [(.int p2), (.int (8 : Int32)), (.int (2 : Int32)), (.int p1)]))
  refine own_go (fun _ k => XS.imul X0.here hx rfl (hb hby d5_5) rfl k) ?_
  show own_Gl p.tables e below F (s₁.setTop (mkF m 6 #[.val (.int p1), .val (.int p2)] [(.int ((8 : Int32) * p2)), (.int (2 : Int32)), (.int p1)]))
  refine own_go (fun _ k => XS.iadd X0.here hx rfl (hb hby d5_6) rfl k) ?_
  show own_Gl p.tables e below F (s₁.setTop (mkF m 7 #[.val (.int p1), .val (.int p2)] [(.int ((2 : Int32) + ((8 : Int32) * p2))), (.int p1)]))
  refine own_go (fun _ k => XS.iushr X0.here hx rfl (hb hby d5_7) rfl k) ?_
  show own_Gl p.tables e below F (s₁.setTop (mkF m 8 #[.val (.int p1), .val (.int p2)] [(.int (XT.ushr p1 ((2 : Int32) + ((8 : Int32) * p2))))]))
  refine own_go (fun _ k => XS.sipush X0.here hx rfl (hb hby d5_8) k) ?_
  show own_Gl p.tables e below F (s₁.setTop (mkF m 11 #[.val (.int p1), .val (.int p2)] [(.int (255 : Int32)), (.int (XT.ushr p1 ((2 : Int32) + ((8 : Int32) * p2))))]))
  refine own_go (fun _ k => XS.iand X0.here hx rfl (hb hby d5_11) rfl k) ?_
  show own_Gl p.tables e below F (s₁.setTop (mkF m 12 #[.val (.int p1), .val (.int p2)] [(.int ((XT.ushr p1 ((2 : Int32) + ((8 : Int32) * p2))) &&& (255 : Int32)))]))
  refine own_go (fun _ k => XS.i2c X0.here hx rfl (hb hby d5_12) rfl k) ?_
  show own_Gl p.tables e below F (s₁.setTop (mkF m 13 #[.val (.int p1), .val (.int p2)] [(.int (((XT.ushr p1 ((2 : Int32) + ((8 : Int32) * p2))) &&& (255 : Int32)).toUInt32.toUInt16.toUInt32.toInt32))]))
  obtain ⟨fs, hr, hrun, hended, hW, hsame⟩ := X0.leave (v := some (.int (own_c p1 p2))) (fun h => by rw [Bd.returns] at h; cases h)
  subst hF
  refine own_fin ?_ ⟨hrun, hended, _, _, rfl, ?_, ⟨_, rfl⟩, hW, hsame.mono (by first | decide | exact Nat.le_of_ble_eq_true rfl) (by first | decide | exact Nat.le_of_ble_eq_true rfl)⟩
  · exact own_retN X0 hx (t := .char) Bd.returns (by simp) (own_nc p1 p2) (hb hby d5_13) hr
  · show Q_rm5 Z _ _ h0 n0 _ s₁.heap _
    rw [e0]
    exact ⟨rfl, N0, rfl⟩
theorem ef_rm1 (m : MethodId) (x0 : Int32) : entryFrame m #[(.int x0)] 2 = mkF m 0 #[.val (.int x0), .unset] [] := by first | (simp [entryFrame, mkF, argsToLocals, Value.category]; done) | rfl
theorem d1_0 : decode method_4_code 0 = .ok (.iload_n 0, 1) := by decide +kernel
theorem d1_1 : decode method_4_code 1 = .ok (.iconst 3, 1) := by decide +kernel
theorem d1_2 : decode method_4_code 2 = .ok (.iand, 1) := by decide +kernel
theorem d1_3 : decode method_4_code 3 = .ok (.istore_n 1, 1) := by decide +kernel
theorem d1_4 : decode method_4_code 4 = .ok (.iload_n 1, 1) := by decide +kernel
theorem d1_5 : decode method_4_code 5 = .ok (.ifCond .ne 14, 3) := by decide +kernel
theorem d1_8 : decode method_4_code 8 = .ok (.new 30, 3) := by decide +kernel
theorem d1_11 : decode method_4_code 11 = .ok (.dup, 1) := by decide +kernel
theorem d1_12 : decode method_4_code 12 = .ok (.iconst 0, 1) := by decide +kernel
theorem d1_13 : decode method_4_code 13 = .ok (.newarray .char, 2) := by decide +kernel
theorem d1_15 : decode method_4_code 15 = .ok (.invokespecial 32, 3) := by decide +kernel
theorem pd_1 : parseMethodDescriptor "([C)V" = some ⟨[(.array .char)], none⟩ := by decide +kernel
theorem d1_18 : decode method_4_code 18 = .ok (.areturn, 1) := by decide +kernel
theorem d1_19 : decode method_4_code 19 = .ok (.iload_n 1, 1) := by decide +kernel
theorem d1_20 : decode method_4_code 20 = .ok (.iconst 1, 1) := by decide +kernel
theorem d1_21 : decode method_4_code 21 = .ok (.if_icmp .ne 22, 3) := by decide +kernel
theorem d1_24 : decode method_4_code 24 = .ok (.new 30, 3) := by decide +kernel
theorem d1_27 : decode method_4_code 27 = .ok (.dup, 1) := by decide +kernel
theorem d1_28 : decode method_4_code 28 = .ok (.iconst 1, 1) := by decide +kernel
theorem d1_29 : decode method_4_code 29 = .ok (.newarray .char, 2) := by decide +kernel
theorem d1_31 : decode method_4_code 31 = .ok (.dup, 1) := by decide +kernel
theorem d1_32 : decode method_4_code 32 = .ok (.iconst 0, 1) := by decide +kernel
theorem d1_33 : decode method_4_code 33 = .ok (.iload_n 0, 1) := by decide +kernel
theorem d1_34 : decode method_4_code 34 = .ok (.iconst 0, 1) := by decide +kernel
theorem d1_35 : decode method_4_code 35 = .ok (.invokestatic 35, 3) := by decide +kernel
theorem pd_2 : parseMethodDescriptor "(II)C" = some ⟨[.int, .int], some .char⟩ := by decide +kernel
theorem d1_38 : decode method_4_code 38 = .ok (.castore, 1) := by decide +kernel
theorem d1_39 : decode method_4_code 39 = .ok (.invokespecial 32, 3) := by decide +kernel
theorem d1_42 : decode method_4_code 42 = .ok (.areturn, 1) := by decide +kernel
theorem d1_43 : decode method_4_code 43 = .ok (.iload_n 1, 1) := by decide +kernel
theorem d1_44 : decode method_4_code 44 = .ok (.iconst 2, 1) := by decide +kernel
theorem d1_45 : decode method_4_code 45 = .ok (.if_icmp .ne 30, 3) := by decide +kernel
theorem d1_48 : decode method_4_code 48 = .ok (.new 30, 3) := by decide +kernel
theorem d1_51 : decode method_4_code 51 = .ok (.dup, 1) := by decide +kernel
theorem d1_52 : decode method_4_code 52 = .ok (.iconst 2, 1) := by decide +kernel
theorem d1_53 : decode method_4_code 53 = .ok (.newarray .char, 2) := by decide +kernel
theorem d1_55 : decode method_4_code 55 = .ok (.dup, 1) := by decide +kernel
theorem d1_56 : decode method_4_code 56 = .ok (.iconst 0, 1) := by decide +kernel
theorem d1_57 : decode method_4_code 57 = .ok (.iload_n 0, 1) := by decide +kernel
theorem d1_58 : decode method_4_code 58 = .ok (.iconst 0, 1) := by decide +kernel
theorem d1_59 : decode method_4_code 59 = .ok (.invokestatic 35, 3) := by decide +kernel
theorem d1_62 : decode method_4_code 62 = .ok (.castore, 1) := by decide +kernel
theorem d1_63 : decode method_4_code 63 = .ok (.dup, 1) := by decide +kernel
theorem d1_64 : decode method_4_code 64 = .ok (.iconst 1, 1) := by decide +kernel
theorem d1_65 : decode method_4_code 65 = .ok (.iload_n 0, 1) := by decide +kernel
theorem d1_66 : decode method_4_code 66 = .ok (.iconst 1, 1) := by decide +kernel
theorem d1_67 : decode method_4_code 67 = .ok (.invokestatic 35, 3) := by decide +kernel
theorem d1_70 : decode method_4_code 70 = .ok (.castore, 1) := by decide +kernel
theorem d1_71 : decode method_4_code 71 = .ok (.invokespecial 32, 3) := by decide +kernel
theorem d1_74 : decode method_4_code 74 = .ok (.areturn, 1) := by decide +kernel
theorem d1_75 : decode method_4_code 75 = .ok (.new 30, 3) := by decide +kernel
theorem d1_78 : decode method_4_code 78 = .ok (.dup, 1) := by decide +kernel
theorem d1_79 : decode method_4_code 79 = .ok (.iconst 3, 1) := by decide +kernel
theorem d1_80 : decode method_4_code 80 = .ok (.newarray .char, 2) := by decide +kernel
theorem d1_82 : decode method_4_code 82 = .ok (.dup, 1) := by decide +kernel
theorem d1_83 : decode method_4_code 83 = .ok (.iconst 0, 1) := by decide +kernel
theorem d1_84 : decode method_4_code 84 = .ok (.iload_n 0, 1) := by decide +kernel
theorem d1_85 : decode method_4_code 85 = .ok (.iconst 0, 1) := by decide +kernel
theorem d1_86 : decode method_4_code 86 = .ok (.invokestatic 35, 3) := by decide +kernel
theorem d1_89 : decode method_4_code 89 = .ok (.castore, 1) := by decide +kernel
theorem d1_90 : decode method_4_code 90 = .ok (.dup, 1) := by decide +kernel
theorem d1_91 : decode method_4_code 91 = .ok (.iconst 1, 1) := by decide +kernel
theorem d1_92 : decode method_4_code 92 = .ok (.iload_n 0, 1) := by decide +kernel
theorem d1_93 : decode method_4_code 93 = .ok (.iconst 1, 1) := by decide +kernel
theorem d1_94 : decode method_4_code 94 = .ok (.invokestatic 35, 3) := by decide +kernel
theorem d1_97 : decode method_4_code 97 = .ok (.castore, 1) := by decide +kernel
theorem d1_98 : decode method_4_code 98 = .ok (.dup, 1) := by decide +kernel
theorem d1_99 : decode method_4_code 99 = .ok (.iconst 2, 1) := by decide +kernel
theorem d1_100 : decode method_4_code 100 = .ok (.iload_n 0, 1) := by decide +kernel
theorem d1_101 : decode method_4_code 101 = .ok (.iconst 2, 1) := by decide +kernel
theorem d1_102 : decode method_4_code 102 = .ok (.invokestatic 35, 3) := by decide +kernel
theorem d1_105 : decode method_4_code 105 = .ok (.castore, 1) := by decide +kernel
theorem d1_106 : decode method_4_code 106 = .ok (.invokespecial 32, 3) := by decide +kernel
theorem d1_109 : decode method_4_code 109 = .ok (.areturn, 1) := by decide +kernel
def Q_rm1 (Z : State) (p1 zc : Int32) (h0 : Heap) (n0 : Nat) (v : Option Value) (h : Heap) (L : List Loc) : Prop := ∃ x : Addr, v = some (.ref x) ∧ Fr n0 L ∧ Keep h0 h [] ∧ h0.size ≤ x ∧ own_S Z h x (own_cs p1)
set_option maxRecDepth 65536 in
set_option maxHeartbeats 40000000 in
theorem rm1 (l : Launch) (Z : State) (a0 : Array Value) (hw : ∀ d ∈ tables_1, d.before a0 Z = true) (ws : List Jvm.Cond) (p1 zc : Int32) (h0 : Heap) (n0 : Nat) (Z0 : n0 ≤ h0.size) (OO : Old Z n0 h0) (O2 : Sta Z Z.heap "java/lang/String" "COMPACT_STRINGS" "Z" (.int zc)) (P5 : ¬ zc = 0) :
    MetFree l (⟨"com/example/cores_from_twigs/coresfromtwigs/constraints/ConstraintEqualsPinLaw", "str", "(I)Ljava/lang/String;"⟩ : MethodName) (head1 (Jvm.Cond.code (⟨"com/example/cores_from_twigs/coresfromtwigs/constraints/ConstraintEqualsPinLaw", "str", "(I)Ljava/lang/String;"⟩ : MethodName) method_4_code 2 (some (.object "java/lang/String")) :: ws) ({ frames := 4, cells := 6, slots := 12, locals := 66 } : Room)) (fun ag U => ag = #[(.int p1)] ∧ Z.Warmed39 U.vm ∧ U.heap = h0 ∧ CHv Z own_EL U.vm h0) (fun _ _ _ _ _ => True) (fun _ U o U' => ∃ v L, o = .returned v ∧ Q_rm1 Z p1 zc h0 n0 v U'.heap L ∧ CHr Z own_EL U.vm U.heap U'.vm U'.heap ∧ ReturnedEndW U o U' L ({ frames := 4, cells := 6, slots := 12, locals := 66 } : Room).cells ({ frames := 4, cells := 6, slots := 12, locals := 66 } : Room).slots) := by
  refine MetFree.of_bodySF (plainFor_of_name pn_1) hisR ?_
  intro p e s m args below meth c s₁ Bd hml0 hP hK
  obtain ⟨rfl, hZ, hh, hCH⟩ := hP
  have hx := Bd.exec
  have hby := Bd.bytes
  have hml : c.maxLocals = 2 := hml0
  have hown : s.vm.findClass "com/example/cores_from_twigs/coresfromtwigs/constraints/ConstraintEqualsPinLaw" = some m.cls := findClass_of_methodNamed Bd.named
  have hnm := (name_of_methodNamed Bd.named Bd.method).1
  have hZ0 : Z.Warmed39 (s.setVm s.vm).vm := hZ
  have hown0 : (s.setVm s.vm).vm.findClass "com/example/cores_from_twigs/coresfromtwigs/constraints/ConstraintEqualsPinLaw" = some m.cls := hown
  have hS0 : s.Since s.vm 0 := (State.WarmedH.refl s).since 0
  have hk0 : 0 ≤ h0.size := Nat.zero_le _
  have CR0 : CHr Z own_EL s.vm h0 s.vm h0 := CHr.refl hCH
  have hEL : EW Z a0 own_EL := own_hEL hw
  have wS := own_wS hw
  have X0 : Stand p l e ({ frames := 4, cells := 6, slots := 12, locals := 66 } : Room) (s.setVm s.vm) m #[(.int p1)] below meth c s₁ [] 0 0 := Stand.of_body Bd
  have e0 : s₁.heap = h0 := by rw [← hh, Bd.state]; rfl
  have N0 := Fr.nil n0
  refine own_start (ef_rm1 m p1) ?_
  intro F hF
  show own_Gl p.tables e below F (s₁.setTop (mkF m 0 #[.val (.int p1), .unset] []))
  have hws : ∀ d ∈ StrChars.Road.words, d.before a0 Z = true := fun d hd => hw d ((by decide +kernel : ∀ d ∈ StrChars.Road.words, d ∈ tables_1) d hd)
  refine own_go (fun _ k => XS.iloadN X0.here hx rfl (hb hby d1_0) rfl k) ?_
  show own_Gl p.tables e below F (s₁.setTop (mkF m 1 #[.val (.int p1), .unset] [(.int p1)]))
  refine own_go (fun _ k => XS.iconst X0.here hx rfl (hb hby d1_1) k) ?_
  show own_Gl p.tables e below F (s₁.setTop (mkF m 2 #[.val (.int p1), .unset] [(.int (3 : Int32)), (.int p1)]))
  refine own_go (fun _ k => XS.iand X0.here hx rfl (hb hby d1_2) rfl k) ?_
  show own_Gl p.tables e below F (s₁.setTop (mkF m 3 #[.val (.int p1), .unset] [(.int (p1 &&& (3 : Int32)))]))
  refine own_go (fun _ k => XS.istoreN X0.here hx rfl (hb hby d1_3) rfl (l' := #[.val (.int p1), .val (.int (p1 &&& (3 : Int32)))]) rfl k) ?_
  show own_Gl p.tables e below F (s₁.setTop (mkF m 4 #[.val (.int p1), .val (.int (p1 &&& (3 : Int32)))] []))
  rcases own_m p1 with hm | hm | hm | hm
  · rw [hm]
    show own_Gl p.tables e below F (s₁.setTop (mkF m 4 #[.val (.int p1), .val (.int (0 : Int32))] []))
    refine own_go (fun _ k => XS.iloadN X0.here hx rfl (hb hby d1_4) rfl k) ?_
    show own_Gl p.tables e below F (s₁.setTop (mkF m 5 #[.val (.int p1), .val (.int (0 : Int32))] [(.int (0 : Int32))]))
    refine own_go (fun _ k => XS.ifNo X0.here hx rfl (hb hby d1_5) rfl (XT.i0_ne_f rfl) k) ?_
    show own_Gl p.tables e below F (s₁.setTop (mkF m 8 #[.val (.int p1), .val (.int (0 : Int32))] []))
    obtain ⟨T1, h1, X1, e1, E1, A1, D1, -, st1⟩ := newO X0 hx hZ0 hown0 (hw _ (List.mem_of_getElem? (i := 4) rfl)) (hw _ (List.mem_of_getElem? (i := 5) rfl)) (hw _ (List.mem_of_getElem? (i := 6) rfl)) e0 (g := (mkF m 8 #[.val (.int p1), .val (.int (0 : Int32))] [])) rfl (hb hby d1_8) (by first | decide | exact Nat.le_of_ble_eq_true rfl) (by first | decide | exact Nat.le_of_ble_eq_true rfl)
    obtain ⟨b1, g1⟩ : ∃ z, z = h0.size := ⟨_, rfl⟩
    rw [← g1] at A1 D1 st1
    have ge_b1 : n0 ≤ b1 := Nat.le_trans Z0 (Nat.le_of_eq g1.symm)
    have sz_b1 : h0.size ≤ b1 := Nat.le_trans ((Keep.refl h0 [])).1 (Nat.le_of_eq g1.symm)
    have sf_b1 := Safe.ext E1 CR0.1 (Safe.new (Z := Z) (EL := own_EL) (vm := s.vm) (Nat.le_of_eq g1.symm))
    have f1_0 := OO.ext E1
    have Z1 : n0 ≤ h1.size := Nat.le_trans Z0 E1.1
    have K1 := Keep.ext (Keep.refl h0 []) E1
    have CR1 := CR0.trans (CHr.ext E1 CR0.1)
    have hk1 : 0 ≤ h1.size := Nat.le_trans hk0 E1.1
    have F1_value : Fld Z h1 b1 "java/lang/String" "value" "[B" .null := D1 (Or.inr (hw _ (List.mem_of_getElem? (i := 20) rfl))) (ty := (.array .byte)) (by decide)
    have F1_coder : Fld Z h1 b1 "java/lang/String" "coder" "B" (.int (0 : Int32)) := D1 (Or.inr (hw _ (List.mem_of_getElem? (i := 21) rfl))) (ty := .byte) (by decide)
    have X1 : Stand _ _ _ _ _ _ _ _ _ _ _ _ 1 4 := X1
    refine own_go st1 ?_
    show own_Gl p.tables e below F (T1.setTop (mkF m 11 #[.val (.int p1), .val (.int (0 : Int32))] [(.ref b1)]))
    refine own_go (fun _ k => XS.dup X1.here hx rfl (hb hby d1_11) rfl rfl k) ?_
    show own_Gl p.tables e below F (T1.setTop (mkF m 12 #[.val (.int p1), .val (.int (0 : Int32))] [(.ref b1), (.ref b1)]))
    refine own_go (fun _ k => XS.iconst X1.here hx rfl (hb hby d1_12) k) ?_
    show own_Gl p.tables e below F (T1.setTop (mkF m 13 #[.val (.int p1), .val (.int (0 : Int32))] [(.int (0 : Int32)), (.ref b1), (.ref b1)]))
    obtain ⟨T2, h2, k2, X2, e2, E2, A2, st2⟩ := newP X1 hx hZ0 (hw _ (List.mem_of_getElem? (i := 7) rfl)) e1 (g := (mkF m 13 #[.val (.int p1), .val (.int (0 : Int32))] [(.int (0 : Int32)), (.ref b1), (.ref b1)])) rfl (hb hby d1_13) rfl (by decide) (cap := 0) (by decide) (by decide) (by decide) (by decide)
    obtain ⟨b2, g2⟩ : ∃ z, z = h1.size := ⟨_, rfl⟩
    rw [← g2] at A2 st2
    have ne_b1_b2 : b1 ≠ b2 := Nat.ne_of_lt (Nat.lt_of_lt_of_le A1.lt (Nat.le_of_eq g2.symm))
    have ge_b2 : n0 ≤ b2 := Nat.le_trans Z1 (Nat.le_of_eq g2.symm)
    have sz_b2 : h0.size ≤ b2 := Nat.le_trans (K1).1 (Nat.le_of_eq g2.symm)
    have sf_b2 := Safe.ext E2 CR1.1 (Safe.new (Z := Z) (EL := own_EL) (vm := s.vm) (Nat.le_of_eq g2.symm))
    have f2_0 := f1_0.ext E2
    have f2_1 := A1.ext E2
    have f2_2 := F1_value.ext E2
    have f2_3 := F1_coder.ext E2
    have Z2 : n0 ≤ h2.size := Nat.le_trans Z1 E2.1
    have K2 := Keep.ext K1 E2
    have sf2_0 := Safe.ext E2 CR1.1 sf_b1
    have CR2 := CR1.trans (CHr.ext E2 CR1.1)
    have hk2 : 0 ≤ h2.size := Nat.le_trans hk1 E2.1
    have V2 : Arv Z h2 b2 k2 .char (0 : Int32) [] (.int (0 : Int32)) := (Arv.new A2 (by decide)).pad (pad_rep [] (.int (0 : Int32)) 0)
    have X2 : Stand _ _ _ _ _ _ _ _ _ _ _ _ 2 4 := X2
    refine own_go st2 ?_
    show own_Gl p.tables e below F (T2.setTop (mkF m 15 #[.val (.int p1), .val (.int (0 : Int32))] [(.ref b2), (.ref b1), (.ref b1)]))
    obtain ⟨_, _, ⟨T3, L3, k3, n3⟩, -, X3, hs3, hg3, ⟨Lc3, hQ3, l3, y3, z3, hC3⟩, st3⟩ := X2.specialBackS hx (y := (⟨"java/lang/String", "<init>", "([C)V"⟩ : MethodName)) rfl hown0 (mvT hZ0 (hw _ (List.mem_of_getElem? (i := 8) rfl))) (mvT hZ0 (hw _ (List.mem_of_getElem? (i := 9) rfl))) (mvT hZ0 (hw _ (List.mem_of_getElem? (i := 10) rfl))) (by decide) (backOfSH (W := 1) (rm1e l Z a0 hw [] b1 b2 k2 h2 n0 Z2 f2_1 f2_2 f2_3 V2 ge_b1) hZ0 (hw _ (List.mem_of_getElem? (i := 10) rfl)) (hw _ (List.mem_of_getElem? (i := 6) rfl)) (by decide) (by decide) hEL CR2.1) (g := (mkF m 15 #[.val (.int p1), .val (.int (0 : Int32))] [(.ref b2), (.ref b1), (.ref b1)])) rfl (by rw [hml]; rfl) (Steps.refl _) (a := b1) (argsL := [(.ref b2)]) (rest := [(.ref b1)]) (lenOf pd_1 rfl) rfl (by show 2 * 0 + _ ≤ _; exact Nat.le_of_eq rfl) (hb hby d1_15) (fun _ _ => ⟨rfl, e2, (by first | decide | exact Nat.le_of_ble_eq_true rfl), (by first | decide | exact Nat.le_of_ble_eq_true rfl)⟩)
    dsimp only [Pt.U, Pt.locs, Pt.cells, Pt.slots] at X3 l3 y3 z3 st3 hQ3 hs3 hg3 hC3
    obtain ⟨rfl, N3, K3, GE3, GC3, t3, kb3, GV3, GA3⟩ := hQ3
    have X3 := own_sn X3 (k' := 6) (n' := 12) y3 z3
    have NF3 := own_fr l3 N0 N3
    obtain ⟨XR3, hS3, hZ3, hown3⟩ := rebS hS0 (by rw [e2]; exact hk2) X3 hs3 hg3 hZ0 hown0
    have CR3 := CR2.trans hC3
    have sf3_0 := hC3.safe f2_1.lt sf2_0
    have sf3_1 := hC3.safe V2.lt sf_b2
    have f3_1 := f2_0.keep K3 (allS ge_b1 (all0))
    have f3_2 := f2_1.keep K3
    have f3_5 := V2.keep K3 (ninS (Ne.symm ne_b1_b2) nin0)
    have Z3 : n0 ≤ T3.heap.size := Nat.le_trans Z2 K3.1
    have KK3 := Keep.trans K2 K3 (by intro z hz; simp at hz; rcases hz with rfl; all_goals first | (left; simp; done) | (right; assumption))
    have hk3 : T3.heap.size ≤ T3.heap.size := Nat.le_refl _
    refine own_go (fun _ k => st3.trans k) ?_
    show own_Gl p.tables e below F (T3.setTop (mkF m 18 #[.val (.int p1), .val (.int (0 : Int32))] [(.ref b1)]))
    have OS : own_S Z T3.heap b1 (own_cs p1) := by rw [own_cs0 hm]; exact ⟨GE3, GC3, t3, kb3, GV3, GA3⟩
    obtain ⟨fs, hr, hrun, hended, hRW⟩ := Jvm.Stand.leaveW XR3 hS3 (by exact hk3) (v := some (.ref b1)) (fun h => by rw [Bd.returns] at h; cases h)
    have CE : CHr Z own_EL s.vm s.heap T3.vm T3.heap := by rw [hh]; exact CR3.trans (CHv.at XR3 hZ3 hEL CR3.1)
    subst hF
    refine own_fin ?_ ⟨hrun, hended, _, _, rfl, ?_, CE, hRW.1, hRW.2.1, hRW.2.2.1, hRW.2.2.2.mono (by first | decide | exact Nat.le_of_ble_eq_true rfl) (by first | decide | exact Nat.le_of_ble_eq_true rfl)⟩
    · exact own_retA XR3 hx Bd.returns rfl rfl (hb hby d1_18) hr
    · show Q_rm1 Z _ _ h0 n0 _ T3.heap _
      exact ⟨b1, rfl, NF3, KK3, sz_b1, OS⟩
  · rw [hm]
    show own_Gl p.tables e below F (s₁.setTop (mkF m 4 #[.val (.int p1), .val (.int (1 : Int32))] []))
    refine own_go (fun _ k => XS.iloadN X0.here hx rfl (hb hby d1_4) rfl k) ?_
    show own_Gl p.tables e below F (s₁.setTop (mkF m 5 #[.val (.int p1), .val (.int (1 : Int32))] [(.int (1 : Int32))]))
    refine own_go (fun _ k => XS.ifYes X0.here hx rfl (pc0 := 5) (pc' := 19) rfl (hb hby d1_5) rfl (XT.i0_ne_t (by decide)) (by decide) (by decide) k) ?_
    show own_Gl p.tables e below F (s₁.setTop (mkF m 19 #[.val (.int p1), .val (.int (1 : Int32))] []))
    refine own_go (fun _ k => XS.iloadN X0.here hx rfl (hb hby d1_19) rfl k) ?_
    show own_Gl p.tables e below F (s₁.setTop (mkF m 20 #[.val (.int p1), .val (.int (1 : Int32))] [(.int (1 : Int32))]))
    refine own_go (fun _ k => XS.iconst X0.here hx rfl (hb hby d1_20) k) ?_
    show own_Gl p.tables e below F (s₁.setTop (mkF m 21 #[.val (.int p1), .val (.int (1 : Int32))] [(.int (1 : Int32)), (.int (1 : Int32))]))
    refine own_go (fun _ k => XS.icmpNo X0.here hx rfl (hb hby d1_21) rfl (XT.ii_ne_f rfl) k) ?_
    show own_Gl p.tables e below F (s₁.setTop (mkF m 24 #[.val (.int p1), .val (.int (1 : Int32))] []))
    obtain ⟨T4, h4, X4, e4, E4, A4, D4, -, st4⟩ := newO X0 hx hZ0 hown0 (hw _ (List.mem_of_getElem? (i := 4) rfl)) (hw _ (List.mem_of_getElem? (i := 5) rfl)) (hw _ (List.mem_of_getElem? (i := 6) rfl)) e0 (g := (mkF m 24 #[.val (.int p1), .val (.int (1 : Int32))] [])) rfl (hb hby d1_24) (by first | decide | exact Nat.le_of_ble_eq_true rfl) (by first | decide | exact Nat.le_of_ble_eq_true rfl)
    obtain ⟨b4, g4⟩ : ∃ z, z = h0.size := ⟨_, rfl⟩
    rw [← g4] at A4 D4 st4
    have ge_b4 : n0 ≤ b4 := Nat.le_trans Z0 (Nat.le_of_eq g4.symm)
    have sz_b4 : h0.size ≤ b4 := Nat.le_trans ((Keep.refl h0 [])).1 (Nat.le_of_eq g4.symm)
    have sf_b4 := Safe.ext E4 CR0.1 (Safe.new (Z := Z) (EL := own_EL) (vm := s.vm) (Nat.le_of_eq g4.symm))
    have f4_0 := OO.ext E4
    have Z4 : n0 ≤ h4.size := Nat.le_trans Z0 E4.1
    have K4 := Keep.ext (Keep.refl h0 []) E4
    have CR4 := CR0.trans (CHr.ext E4 CR0.1)
    have hk4 : 0 ≤ h4.size := Nat.le_trans hk0 E4.1
    have F4_value : Fld Z h4 b4 "java/lang/String" "value" "[B" .null := D4 (Or.inr (hw _ (List.mem_of_getElem? (i := 20) rfl))) (ty := (.array .byte)) (by decide)
    have F4_coder : Fld Z h4 b4 "java/lang/String" "coder" "B" (.int (0 : Int32)) := D4 (Or.inr (hw _ (List.mem_of_getElem? (i := 21) rfl))) (ty := .byte) (by decide)
    have X4 : Stand _ _ _ _ _ _ _ _ _ _ _ _ 1 4 := X4
    refine own_go st4 ?_
    show own_Gl p.tables e below F (T4.setTop (mkF m 27 #[.val (.int p1), .val (.int (1 : Int32))] [(.ref b4)]))
    refine own_go (fun _ k => XS.dup X4.here hx rfl (hb hby d1_27) rfl rfl k) ?_
    show own_Gl p.tables e below F (T4.setTop (mkF m 28 #[.val (.int p1), .val (.int (1 : Int32))] [(.ref b4), (.ref b4)]))
    refine own_go (fun _ k => XS.iconst X4.here hx rfl (hb hby d1_28) k) ?_
    show own_Gl p.tables e below F (T4.setTop (mkF m 29 #[.val (.int p1), .val (.int (1 : Int32))] [(.int (1 : Int32)), (.ref b4), (.ref b4)]))
    obtain ⟨T5, h5, k5, X5, e5, E5, A5, st5⟩ := newP X4 hx hZ0 (hw _ (List.mem_of_getElem? (i := 7) rfl)) e4 (g := (mkF m 29 #[.val (.int p1), .val (.int (1 : Int32))] [(.int (1 : Int32)), (.ref b4), (.ref b4)])) rfl (hb hby d1_29) rfl (by decide) (cap := 1) (by decide) (by decide) (by decide) (by decide)
    obtain ⟨b5, g5⟩ : ∃ z, z = h4.size := ⟨_, rfl⟩
    rw [← g5] at A5 st5
    have ne_b4_b5 : b4 ≠ b5 := Nat.ne_of_lt (Nat.lt_of_lt_of_le A4.lt (Nat.le_of_eq g5.symm))
    have ge_b5 : n0 ≤ b5 := Nat.le_trans Z4 (Nat.le_of_eq g5.symm)
    have sz_b5 : h0.size ≤ b5 := Nat.le_trans (K4).1 (Nat.le_of_eq g5.symm)
    have sf_b5 := Safe.ext E5 CR4.1 (Safe.new (Z := Z) (EL := own_EL) (vm := s.vm) (Nat.le_of_eq g5.symm))
    have f5_0 := f4_0.ext E5
    have f5_1 := A4.ext E5
    have f5_2 := F4_value.ext E5
    have f5_3 := F4_coder.ext E5
    have Z5 : n0 ≤ h5.size := Nat.le_trans Z4 E5.1
    have K5 := Keep.ext K4 E5
    have sf5_0 := Safe.ext E5 CR4.1 sf_b4
    have CR5 := CR4.trans (CHr.ext E5 CR4.1)
    have hk5 : 0 ≤ h5.size := Nat.le_trans hk4 E5.1
    have V5 : Arv Z h5 b5 k5 .char (1 : Int32) [(.int (0 : Int32))] (.int (0 : Int32)) := (Arv.new A5 (by decide)).pad (pad_rep [] (.int (0 : Int32)) 1)
    have X5 : Stand _ _ _ _ _ _ _ _ _ _ _ _ 2 5 := X5
    refine own_go st5 ?_
    show own_Gl p.tables e below F (T5.setTop (mkF m 31 #[.val (.int p1), .val (.int (1 : Int32))] [(.ref b5), (.ref b4), (.ref b4)]))
    refine own_go (fun _ k => XS.dup X5.here hx rfl (hb hby d1_31) rfl rfl k) ?_
    show own_Gl p.tables e below F (T5.setTop (mkF m 32 #[.val (.int p1), .val (.int (1 : Int32))] [(.ref b5), (.ref b5), (.ref b4), (.ref b4)]))
    refine own_go (fun _ k => XS.iconst X5.here hx rfl (hb hby d1_32) k) ?_
    show own_Gl p.tables e below F (T5.setTop (mkF m 33 #[.val (.int p1), .val (.int (1 : Int32))] [(.int (0 : Int32)), (.ref b5), (.ref b5), (.ref b4), (.ref b4)]))
    refine own_go (fun _ k => XS.iloadN X5.here hx rfl (hb hby d1_33) rfl k) ?_
    show own_Gl p.tables e below F (T5.setTop (mkF m 34 #[.val (.int p1), .val (.int (1 : Int32))] [(.int p1), (.int (0 : Int32)), (.ref b5), (.ref b5), (.ref b4), (.ref b4)]))
    refine own_go (fun _ k => XS.iconst X5.here hx rfl (hb hby d1_34) k) ?_
    show own_Gl p.tables e below F (T5.setTop (mkF m 35 #[.val (.int p1), .val (.int (1 : Int32))] [(.int (0 : Int32)), (.int p1), (.int (0 : Int32)), (.ref b5), (.ref b5), (.ref b4), (.ref b4)]))
    obtain ⟨_, _, ⟨T6, L6, k6, n6⟩, -, X6, ⟨Lc6, hQ6, l6, y6, z6⟩, st6⟩ := Jvm.LawKit.callS X5 hx (y := (⟨"com/example/cores_from_twigs/coresfromtwigs/constraints/ConstraintEqualsPinLaw", "ch", "(II)C"⟩ : MethodName)) hown0 (mvT hZ0 (hw _ (List.mem_of_getElem? (i := 26) rfl))) (mvT hZ0 (hw _ (List.mem_of_getElem? (i := 27) rfl))) (mvT hZ0 (hw _ (List.mem_of_getElem? (i := 2) rfl))) (mvT hZ0 (hw _ (List.mem_of_getElem? (i := 28) rfl))) (by decide) (backOf (W := 5) (rm5 l Z a0 hw [] p1 (0 : Int32)  h5 n0 Z5 ) hZ0 (hw _ (List.mem_of_getElem? (i := 28) rfl)) (hw _ (List.mem_of_getElem? (i := 2) rfl)) (by decide) (by decide)) (g := (mkF m 35 #[.val (.int p1), .val (.int (1 : Int32))] [(.int (0 : Int32)), (.int p1), (.int (0 : Int32)), (.ref b5), (.ref b5), (.ref b4), (.ref b4)])) rfl (by rw [hml]; rfl) (argsL := [(.int p1), (.int (0 : Int32))]) (rest := [(.int (0 : Int32)), (.ref b5), (.ref b5), (.ref b4), (.ref b4)]) (lenOf pd_2 rfl) rfl (by show 2 * 0 + _ ≤ _; exact Nat.le_of_eq rfl) (hb hby d1_35) (fun _ _ => ⟨rfl, e5, (by first | decide | exact Nat.le_of_ble_eq_true rfl), (by first | decide | exact Nat.le_of_ble_eq_true rfl)⟩)
    dsimp only [Pt.U, Pt.locs, Pt.cells, Pt.slots] at X6 l6 y6 z6 st6 hQ6
    obtain ⟨rfl, N6, e6⟩ := hQ6
    have X6 := own_sn X6 (k' := 2) (n' := 5) y6 z6
    have NF6 := own_fr l6 N0 N6
    refine own_go st6 ?_
    show own_Gl p.tables e below F (T6.setTop (mkF m 38 #[.val (.int p1), .val (.int (1 : Int32))] [(.int (own_c p1 (0 : Int32))), (.int (0 : Int32)), (.ref b5), (.ref b5), (.ref b4), (.ref b4)]))
    obtain ⟨cl7, Ar7, ak7, aS7, aN7, aH7, aG7⟩ := id V5
    have hin7 : ¬ ((0 : Int32) < 0 ∨ cl7.slots.size ≤ ((0 : Int32)).toNatClampNeg) := inb_of aS7 ⟨by decide, by decide⟩
    obtain ⟨T7, h7, X7, e7, W7, st7⟩ := stC X6 hx hZ0 e6 Ar7 (j := (0 : Int32)) hin7 (g := (mkF m 38 #[.val (.int p1), .val (.int (1 : Int32))] [(.int (own_c p1 (0 : Int32))), (.int (0 : Int32)), (.ref b5), (.ref b5), (.ref b4), (.ref b4)])) rfl rfl (hb hby d1_38)
    have V7 : Arv Z h7 b5 k5 .char (1 : Int32) [(.int (nar .char (own_c p1 (0 : Int32))))] (.int (0 : Int32)) := Arv.set Ar7 ak7 aS7 aN7 aH7 aG7 (fits_nar_char _) W7 0 rfl (by first | decide | exact Nat.le_of_ble_eq_true rfl | simp)
    have f7_1 := f5_0.wr W7 ge_b5
    have f7_2 := f5_1.wr W7
    have f7_3 := f5_2.other W7 (Or.inl ne_b4_b5)
    have f7_4 := f5_3.other W7 (Or.inl ne_b4_b5)
    have Z7 : n0 ≤ h7.size := by rw [W7.size]; exact Z5
    have K7 := Keep.wr K5 W7 (Or.inr sz_b5)
    have sf7_0 := Safe.wr W7 sf_b5 CR5.1 sf5_0
    have sf7_1 := Safe.wr W7 sf_b5 CR5.1 sf_b5
    have CR7 := CR5.trans (CHr.wr W7 sf_b5 CR5.1)
    have hk7 : 0 ≤ h7.size := by rw [W7.size]; exact hk5
    have N7 := Fr.snoc X7 NF6 ge_b5
    refine own_go st7 ?_
    show own_Gl p.tables e below F (T7.setTop (mkF m 39 #[.val (.int p1), .val (.int (1 : Int32))] [(.ref b5), (.ref b4), (.ref b4)]))
    simp only [own_nc] at V7
    obtain ⟨_, _, ⟨T8, L8, k8, n8⟩, -, X8, ⟨Lc8, hQ8, l8, y8, z8⟩, st8⟩ := X7.specialBack hx (y := (⟨"java/lang/String", "<init>", "([C)V"⟩ : MethodName)) rfl hown0 (mvT hZ0 (hw _ (List.mem_of_getElem? (i := 8) rfl))) (mvT hZ0 (hw _ (List.mem_of_getElem? (i := 9) rfl))) (mvT hZ0 (hw _ (List.mem_of_getElem? (i := 10) rfl))) (by decide) (StrChars.Road.backV (W := 1) hZ0 hws (kI := 4) (hw _ (List.mem_of_getElem? (i := 5) rfl)) (cs := ([own_c p1 (0 : Int32)] : List Int32)) (bs := ([own_c p1 (0 : Int32)] : List Int32).map StrChars.lo8) (n := 1) ge_b4 Z7 f7_2 f7_3 f7_4 V7 (O2.ext f7_1.2) P5 rfl rfl (by decide) (by decide) (own_ok1 p1 0).1 rfl (by decide) (by decide)) (g := (mkF m 39 #[.val (.int p1), .val (.int (1 : Int32))] [(.ref b5), (.ref b4), (.ref b4)])) rfl (by rw [hml]; rfl) (Steps.refl _) (a := b4) (argsL := [(.ref b5)]) (rest := [(.ref b4)]) (lenOf pd_1 rfl) rfl (by show 2 * 0 + _ ≤ _; exact Nat.le_of_eq rfl) (hb hby d1_39) (fun _ _ => ⟨rfl, e7, (by first | decide | exact Nat.le_of_ble_eq_true rfl), (by first | decide | exact Nat.le_of_ble_eq_true rfl)⟩)
    dsimp only [Pt.U, Pt.locs, Pt.cells, Pt.slots] at X8 l8 y8 z8 st8 hQ8
    obtain ⟨rfl, N8, K8, GE8, GC8, t8, kb8, -, -, -, GV8, GA8⟩ := hQ8
    have X8 := own_sn X8 (k' := 3) (n' := 6) y8 z8
    have NF8 := own_fr l8 N7 N8
    have sf8_0 := Safe.keep K8 (sfS sf7_0 sf0) CR7.1 sf7_0
    have sf8_1 := Safe.keep K8 (sfS sf7_0 sf0) CR7.1 sf7_1
    have CR8 := CR7.trans (CHr.keep K8 (sfS sf7_0 sf0) CR7.1)
    have hk8 : 0 ≤ T8.heap.size := Nat.le_trans hk7 K8.1
    have f8_1 := f7_1.keep K8 (allS ge_b4 (all0))
    have f8_2 := f7_2.keep K8
    have f8_5 := V7.keep K8 (ninS (Ne.symm ne_b4_b5) nin0)
    have Z8 : n0 ≤ T8.heap.size := Nat.le_trans Z7 K8.1
    have KK8 := Keep.trans K7 K8 (by intro z hz; simp at hz; rcases hz with rfl; all_goals first | (left; simp; done) | (right; assumption))
    refine own_go (fun _ k => st8.trans k) ?_
    show own_Gl p.tables e below F (T8.setTop (mkF m 42 #[.val (.int p1), .val (.int (1 : Int32))] [(.ref b4)]))
    have OS : own_S Z T8.heap b4 (own_cs p1) := by rw [own_cs1 hm]; exact ⟨GE8, GC8, t8, kb8, GV8, GA8⟩
    obtain ⟨fs, hr, hrun, hended, hRW⟩ := Jvm.Stand.leaveW X8 hS0 (by exact hk8) (v := some (.ref b4)) (fun h => by rw [Bd.returns] at h; cases h)
    have CE : CHr Z own_EL s.vm s.heap T8.vm T8.heap := by rw [hh]; exact CR8.trans (CHv.at X8 hZ0 hEL CR8.1)
    subst hF
    refine own_fin ?_ ⟨hrun, hended, _, _, rfl, ?_, CE, hRW.1, hRW.2.1, hRW.2.2.1, hRW.2.2.2.mono (by first | decide | exact Nat.le_of_ble_eq_true rfl) (by first | decide | exact Nat.le_of_ble_eq_true rfl)⟩
    · exact own_retA X8 hx Bd.returns rfl rfl (hb hby d1_42) hr
    · show Q_rm1 Z _ _ h0 n0 _ T8.heap _
      exact ⟨b4, rfl, NF8, KK8, sz_b4, OS⟩
  · rw [hm]
    show own_Gl p.tables e below F (s₁.setTop (mkF m 4 #[.val (.int p1), .val (.int (2 : Int32))] []))
    refine own_go (fun _ k => XS.iloadN X0.here hx rfl (hb hby d1_4) rfl k) ?_
    show own_Gl p.tables e below F (s₁.setTop (mkF m 5 #[.val (.int p1), .val (.int (2 : Int32))] [(.int (2 : Int32))]))
    refine own_go (fun _ k => XS.ifYes X0.here hx rfl (pc0 := 5) (pc' := 19) rfl (hb hby d1_5) rfl (XT.i0_ne_t (by decide)) (by decide) (by decide) k) ?_
    show own_Gl p.tables e below F (s₁.setTop (mkF m 19 #[.val (.int p1), .val (.int (2 : Int32))] []))
    refine own_go (fun _ k => XS.iloadN X0.here hx rfl (hb hby d1_19) rfl k) ?_
    show own_Gl p.tables e below F (s₁.setTop (mkF m 20 #[.val (.int p1), .val (.int (2 : Int32))] [(.int (2 : Int32))]))
    refine own_go (fun _ k => XS.iconst X0.here hx rfl (hb hby d1_20) k) ?_
    show own_Gl p.tables e below F (s₁.setTop (mkF m 21 #[.val (.int p1), .val (.int (2 : Int32))] [(.int (1 : Int32)), (.int (2 : Int32))]))
    refine own_go (fun _ k => XS.icmpYes X0.here hx rfl (pc0 := 21) (pc' := 43) rfl (hb hby d1_21) rfl (XT.ii_ne_t (by decide)) (by decide) (by decide) k) ?_
    show own_Gl p.tables e below F (s₁.setTop (mkF m 43 #[.val (.int p1), .val (.int (2 : Int32))] []))
    refine own_go (fun _ k => XS.iloadN X0.here hx rfl (hb hby d1_43) rfl k) ?_
    show own_Gl p.tables e below F (s₁.setTop (mkF m 44 #[.val (.int p1), .val (.int (2 : Int32))] [(.int (2 : Int32))]))
    refine own_go (fun _ k => XS.iconst X0.here hx rfl (hb hby d1_44) k) ?_
    show own_Gl p.tables e below F (s₁.setTop (mkF m 45 #[.val (.int p1), .val (.int (2 : Int32))] [(.int (2 : Int32)), (.int (2 : Int32))]))
    refine own_go (fun _ k => XS.icmpNo X0.here hx rfl (hb hby d1_45) rfl (XT.ii_ne_f rfl) k) ?_
    show own_Gl p.tables e below F (s₁.setTop (mkF m 48 #[.val (.int p1), .val (.int (2 : Int32))] []))
    obtain ⟨T9, h9, X9, e9, E9, A9, D9, -, st9⟩ := newO X0 hx hZ0 hown0 (hw _ (List.mem_of_getElem? (i := 4) rfl)) (hw _ (List.mem_of_getElem? (i := 5) rfl)) (hw _ (List.mem_of_getElem? (i := 6) rfl)) e0 (g := (mkF m 48 #[.val (.int p1), .val (.int (2 : Int32))] [])) rfl (hb hby d1_48) (by first | decide | exact Nat.le_of_ble_eq_true rfl) (by first | decide | exact Nat.le_of_ble_eq_true rfl)
    obtain ⟨b9, g9⟩ : ∃ z, z = h0.size := ⟨_, rfl⟩
    rw [← g9] at A9 D9 st9
    have ge_b9 : n0 ≤ b9 := Nat.le_trans Z0 (Nat.le_of_eq g9.symm)
    have sz_b9 : h0.size ≤ b9 := Nat.le_trans ((Keep.refl h0 [])).1 (Nat.le_of_eq g9.symm)
    have sf_b9 := Safe.ext E9 CR0.1 (Safe.new (Z := Z) (EL := own_EL) (vm := s.vm) (Nat.le_of_eq g9.symm))
    have f9_0 := OO.ext E9
    have Z9 : n0 ≤ h9.size := Nat.le_trans Z0 E9.1
    have K9 := Keep.ext (Keep.refl h0 []) E9
    have CR9 := CR0.trans (CHr.ext E9 CR0.1)
    have hk9 : 0 ≤ h9.size := Nat.le_trans hk0 E9.1
    have F9_value : Fld Z h9 b9 "java/lang/String" "value" "[B" .null := D9 (Or.inr (hw _ (List.mem_of_getElem? (i := 20) rfl))) (ty := (.array .byte)) (by decide)
    have F9_coder : Fld Z h9 b9 "java/lang/String" "coder" "B" (.int (0 : Int32)) := D9 (Or.inr (hw _ (List.mem_of_getElem? (i := 21) rfl))) (ty := .byte) (by decide)
    have X9 : Stand _ _ _ _ _ _ _ _ _ _ _ _ 1 4 := X9
    refine own_go st9 ?_
    show own_Gl p.tables e below F (T9.setTop (mkF m 51 #[.val (.int p1), .val (.int (2 : Int32))] [(.ref b9)]))
    refine own_go (fun _ k => XS.dup X9.here hx rfl (hb hby d1_51) rfl rfl k) ?_
    show own_Gl p.tables e below F (T9.setTop (mkF m 52 #[.val (.int p1), .val (.int (2 : Int32))] [(.ref b9), (.ref b9)]))
    refine own_go (fun _ k => XS.iconst X9.here hx rfl (hb hby d1_52) k) ?_
    show own_Gl p.tables e below F (T9.setTop (mkF m 53 #[.val (.int p1), .val (.int (2 : Int32))] [(.int (2 : Int32)), (.ref b9), (.ref b9)]))
    obtain ⟨T10, h10, k10, X10, e10, E10, A10, st10⟩ := newP X9 hx hZ0 (hw _ (List.mem_of_getElem? (i := 7) rfl)) e9 (g := (mkF m 53 #[.val (.int p1), .val (.int (2 : Int32))] [(.int (2 : Int32)), (.ref b9), (.ref b9)])) rfl (hb hby d1_53) rfl (by decide) (cap := 2) (by decide) (by decide) (by decide) (by decide)
    obtain ⟨b10, g10⟩ : ∃ z, z = h9.size := ⟨_, rfl⟩
    rw [← g10] at A10 st10
    have ne_b9_b10 : b9 ≠ b10 := Nat.ne_of_lt (Nat.lt_of_lt_of_le A9.lt (Nat.le_of_eq g10.symm))
    have ge_b10 : n0 ≤ b10 := Nat.le_trans Z9 (Nat.le_of_eq g10.symm)
    have sz_b10 : h0.size ≤ b10 := Nat.le_trans (K9).1 (Nat.le_of_eq g10.symm)
    have sf_b10 := Safe.ext E10 CR9.1 (Safe.new (Z := Z) (EL := own_EL) (vm := s.vm) (Nat.le_of_eq g10.symm))
    have f10_0 := f9_0.ext E10
    have f10_1 := A9.ext E10
    have f10_2 := F9_value.ext E10
    have f10_3 := F9_coder.ext E10
    have Z10 : n0 ≤ h10.size := Nat.le_trans Z9 E10.1
    have K10 := Keep.ext K9 E10
    have sf10_0 := Safe.ext E10 CR9.1 sf_b9
    have CR10 := CR9.trans (CHr.ext E10 CR9.1)
    have hk10 : 0 ≤ h10.size := Nat.le_trans hk9 E10.1
    have V10 : Arv Z h10 b10 k10 .char (2 : Int32) [(.int (0 : Int32)), (.int (0 : Int32))] (.int (0 : Int32)) := (Arv.new A10 (by decide)).pad (pad_rep [] (.int (0 : Int32)) 2)
    have X10 : Stand _ _ _ _ _ _ _ _ _ _ _ _ 2 6 := X10
    refine own_go st10 ?_
    show own_Gl p.tables e below F (T10.setTop (mkF m 55 #[.val (.int p1), .val (.int (2 : Int32))] [(.ref b10), (.ref b9), (.ref b9)]))
    refine own_go (fun _ k => XS.dup X10.here hx rfl (hb hby d1_55) rfl rfl k) ?_
    show own_Gl p.tables e below F (T10.setTop (mkF m 56 #[.val (.int p1), .val (.int (2 : Int32))] [(.ref b10), (.ref b10), (.ref b9), (.ref b9)]))
    refine own_go (fun _ k => XS.iconst X10.here hx rfl (hb hby d1_56) k) ?_
    show own_Gl p.tables e below F (T10.setTop (mkF m 57 #[.val (.int p1), .val (.int (2 : Int32))] [(.int (0 : Int32)), (.ref b10), (.ref b10), (.ref b9), (.ref b9)]))
    refine own_go (fun _ k => XS.iloadN X10.here hx rfl (hb hby d1_57) rfl k) ?_
    show own_Gl p.tables e below F (T10.setTop (mkF m 58 #[.val (.int p1), .val (.int (2 : Int32))] [(.int p1), (.int (0 : Int32)), (.ref b10), (.ref b10), (.ref b9), (.ref b9)]))
    refine own_go (fun _ k => XS.iconst X10.here hx rfl (hb hby d1_58) k) ?_
    show own_Gl p.tables e below F (T10.setTop (mkF m 59 #[.val (.int p1), .val (.int (2 : Int32))] [(.int (0 : Int32)), (.int p1), (.int (0 : Int32)), (.ref b10), (.ref b10), (.ref b9), (.ref b9)]))
    obtain ⟨_, _, ⟨T11, L11, k11, n11⟩, -, X11, ⟨Lc11, hQ11, l11, y11, z11⟩, st11⟩ := Jvm.LawKit.callS X10 hx (y := (⟨"com/example/cores_from_twigs/coresfromtwigs/constraints/ConstraintEqualsPinLaw", "ch", "(II)C"⟩ : MethodName)) hown0 (mvT hZ0 (hw _ (List.mem_of_getElem? (i := 26) rfl))) (mvT hZ0 (hw _ (List.mem_of_getElem? (i := 27) rfl))) (mvT hZ0 (hw _ (List.mem_of_getElem? (i := 2) rfl))) (mvT hZ0 (hw _ (List.mem_of_getElem? (i := 28) rfl))) (by decide) (backOf (W := 5) (rm5 l Z a0 hw [] p1 (0 : Int32)  h10 n0 Z10 ) hZ0 (hw _ (List.mem_of_getElem? (i := 28) rfl)) (hw _ (List.mem_of_getElem? (i := 2) rfl)) (by decide) (by decide)) (g := (mkF m 59 #[.val (.int p1), .val (.int (2 : Int32))] [(.int (0 : Int32)), (.int p1), (.int (0 : Int32)), (.ref b10), (.ref b10), (.ref b9), (.ref b9)])) rfl (by rw [hml]; rfl) (argsL := [(.int p1), (.int (0 : Int32))]) (rest := [(.int (0 : Int32)), (.ref b10), (.ref b10), (.ref b9), (.ref b9)]) (lenOf pd_2 rfl) rfl (by show 2 * 0 + _ ≤ _; exact Nat.le_of_eq rfl) (hb hby d1_59) (fun _ _ => ⟨rfl, e10, (by first | decide | exact Nat.le_of_ble_eq_true rfl), (by first | decide | exact Nat.le_of_ble_eq_true rfl)⟩)
    dsimp only [Pt.U, Pt.locs, Pt.cells, Pt.slots] at X11 l11 y11 z11 st11 hQ11
    obtain ⟨rfl, N11, e11⟩ := hQ11
    have X11 := own_sn X11 (k' := 2) (n' := 6) y11 z11
    have NF11 := own_fr l11 N0 N11
    refine own_go st11 ?_
    show own_Gl p.tables e below F (T11.setTop (mkF m 62 #[.val (.int p1), .val (.int (2 : Int32))] [(.int (own_c p1 (0 : Int32))), (.int (0 : Int32)), (.ref b10), (.ref b10), (.ref b9), (.ref b9)]))
    obtain ⟨cl12, Ar12, ak12, aS12, aN12, aH12, aG12⟩ := id V10
    have hin12 : ¬ ((0 : Int32) < 0 ∨ cl12.slots.size ≤ ((0 : Int32)).toNatClampNeg) := inb_of aS12 ⟨by decide, by decide⟩
    obtain ⟨T12, h12, X12, e12, W12, st12⟩ := stC X11 hx hZ0 e11 Ar12 (j := (0 : Int32)) hin12 (g := (mkF m 62 #[.val (.int p1), .val (.int (2 : Int32))] [(.int (own_c p1 (0 : Int32))), (.int (0 : Int32)), (.ref b10), (.ref b10), (.ref b9), (.ref b9)])) rfl rfl (hb hby d1_62)
    have V12 : Arv Z h12 b10 k10 .char (2 : Int32) [(.int (nar .char (own_c p1 (0 : Int32)))), (.int (0 : Int32))] (.int (0 : Int32)) := Arv.set Ar12 ak12 aS12 aN12 aH12 aG12 (fits_nar_char _) W12 0 rfl (by first | decide | exact Nat.le_of_ble_eq_true rfl | simp)
    have f12_1 := f10_0.wr W12 ge_b10
    have f12_2 := f10_1.wr W12
    have f12_3 := f10_2.other W12 (Or.inl ne_b9_b10)
    have f12_4 := f10_3.other W12 (Or.inl ne_b9_b10)
    have Z12 : n0 ≤ h12.size := by rw [W12.size]; exact Z10
    have K12 := Keep.wr K10 W12 (Or.inr sz_b10)
    have sf12_0 := Safe.wr W12 sf_b10 CR10.1 sf10_0
    have sf12_1 := Safe.wr W12 sf_b10 CR10.1 sf_b10
    have CR12 := CR10.trans (CHr.wr W12 sf_b10 CR10.1)
    have hk12 : 0 ≤ h12.size := by rw [W12.size]; exact hk10
    have N12 := Fr.snoc X12 NF11 ge_b10
    refine own_go st12 ?_
    show own_Gl p.tables e below F (T12.setTop (mkF m 63 #[.val (.int p1), .val (.int (2 : Int32))] [(.ref b10), (.ref b9), (.ref b9)]))
    refine own_go (fun _ k => XS.dup X12.here hx rfl (hb hby d1_63) rfl rfl k) ?_
    show own_Gl p.tables e below F (T12.setTop (mkF m 64 #[.val (.int p1), .val (.int (2 : Int32))] [(.ref b10), (.ref b10), (.ref b9), (.ref b9)]))
    refine own_go (fun _ k => XS.iconst X12.here hx rfl (hb hby d1_64) k) ?_
    show own_Gl p.tables e below F (T12.setTop (mkF m 65 #[.val (.int p1), .val (.int (2 : Int32))] [(.int (1 : Int32)), (.ref b10), (.ref b10), (.ref b9), (.ref b9)]))
    refine own_go (fun _ k => XS.iloadN X12.here hx rfl (hb hby d1_65) rfl k) ?_
    show own_Gl p.tables e below F (T12.setTop (mkF m 66 #[.val (.int p1), .val (.int (2 : Int32))] [(.int p1), (.int (1 : Int32)), (.ref b10), (.ref b10), (.ref b9), (.ref b9)]))
    refine own_go (fun _ k => XS.iconst X12.here hx rfl (hb hby d1_66) k) ?_
    show own_Gl p.tables e below F (T12.setTop (mkF m 67 #[.val (.int p1), .val (.int (2 : Int32))] [(.int (1 : Int32)), (.int p1), (.int (1 : Int32)), (.ref b10), (.ref b10), (.ref b9), (.ref b9)]))
    obtain ⟨_, _, ⟨T13, L13, k13, n13⟩, -, X13, ⟨Lc13, hQ13, l13, y13, z13⟩, st13⟩ := Jvm.LawKit.callS X12 hx (y := (⟨"com/example/cores_from_twigs/coresfromtwigs/constraints/ConstraintEqualsPinLaw", "ch", "(II)C"⟩ : MethodName)) hown0 (mvT hZ0 (hw _ (List.mem_of_getElem? (i := 26) rfl))) (mvT hZ0 (hw _ (List.mem_of_getElem? (i := 27) rfl))) (mvT hZ0 (hw _ (List.mem_of_getElem? (i := 2) rfl))) (mvT hZ0 (hw _ (List.mem_of_getElem? (i := 28) rfl))) (by decide) (backOf (W := 5) (rm5 l Z a0 hw [] p1 (1 : Int32)  h12 n0 Z12 ) hZ0 (hw _ (List.mem_of_getElem? (i := 28) rfl)) (hw _ (List.mem_of_getElem? (i := 2) rfl)) (by decide) (by decide)) (g := (mkF m 67 #[.val (.int p1), .val (.int (2 : Int32))] [(.int (1 : Int32)), (.int p1), (.int (1 : Int32)), (.ref b10), (.ref b10), (.ref b9), (.ref b9)])) rfl (by rw [hml]; rfl) (argsL := [(.int p1), (.int (1 : Int32))]) (rest := [(.int (1 : Int32)), (.ref b10), (.ref b10), (.ref b9), (.ref b9)]) (lenOf pd_2 rfl) rfl (by show 2 * 0 + _ ≤ _; exact Nat.le_of_eq rfl) (hb hby d1_67) (fun _ _ => ⟨rfl, e12, (by first | decide | exact Nat.le_of_ble_eq_true rfl), (by first | decide | exact Nat.le_of_ble_eq_true rfl)⟩)
    dsimp only [Pt.U, Pt.locs, Pt.cells, Pt.slots] at X13 l13 y13 z13 st13 hQ13
    obtain ⟨rfl, N13, e13⟩ := hQ13
    have X13 := own_sn X13 (k' := 2) (n' := 6) y13 z13
    have NF13 := own_fr l13 N12 N13
    refine own_go st13 ?_
    show own_Gl p.tables e below F (T13.setTop (mkF m 70 #[.val (.int p1), .val (.int (2 : Int32))] [(.int (own_c p1 (1 : Int32))), (.int (1 : Int32)), (.ref b10), (.ref b10), (.ref b9), (.ref b9)]))
    obtain ⟨cl14, Ar14, ak14, aS14, aN14, aH14, aG14⟩ := id V12
    have hin14 : ¬ ((1 : Int32) < 0 ∨ cl14.slots.size ≤ ((1 : Int32)).toNatClampNeg) := inb_of aS14 ⟨by decide, by decide⟩
    obtain ⟨T14, h14, X14, e14, W14, st14⟩ := stC X13 hx hZ0 e13 Ar14 (j := (1 : Int32)) hin14 (g := (mkF m 70 #[.val (.int p1), .val (.int (2 : Int32))] [(.int (own_c p1 (1 : Int32))), (.int (1 : Int32)), (.ref b10), (.ref b10), (.ref b9), (.ref b9)])) rfl rfl (hb hby d1_70)
    have V14 : Arv Z h14 b10 k10 .char (2 : Int32) [(.int (nar .char (own_c p1 (0 : Int32)))), (.int (nar .char (own_c p1 (1 : Int32))))] (.int (0 : Int32)) := Arv.set Ar14 ak14 aS14 aN14 aH14 aG14 (fits_nar_char _) W14 1 rfl (by first | decide | exact Nat.le_of_ble_eq_true rfl | simp)
    have f14_1 := f12_1.wr W14 ge_b10
    have f14_2 := f12_2.wr W14
    have f14_3 := f12_3.other W14 (Or.inl ne_b9_b10)
    have f14_4 := f12_4.other W14 (Or.inl ne_b9_b10)
    have Z14 : n0 ≤ h14.size := by rw [W14.size]; exact Z12
    have K14 := Keep.wr K12 W14 (Or.inr sz_b10)
    have sf14_0 := Safe.wr W14 sf12_1 CR12.1 sf12_0
    have sf14_1 := Safe.wr W14 sf12_1 CR12.1 sf12_1
    have CR14 := CR12.trans (CHr.wr W14 sf12_1 CR12.1)
    have hk14 : 0 ≤ h14.size := by rw [W14.size]; exact hk12
    have N14 := Fr.snoc X14 NF13 ge_b10
    refine own_go st14 ?_
    show own_Gl p.tables e below F (T14.setTop (mkF m 71 #[.val (.int p1), .val (.int (2 : Int32))] [(.ref b10), (.ref b9), (.ref b9)]))
    simp only [own_nc] at V14
    obtain ⟨_, _, ⟨T15, L15, k15, n15⟩, -, X15, ⟨Lc15, hQ15, l15, y15, z15⟩, st15⟩ := X14.specialBack hx (y := (⟨"java/lang/String", "<init>", "([C)V"⟩ : MethodName)) rfl hown0 (mvT hZ0 (hw _ (List.mem_of_getElem? (i := 8) rfl))) (mvT hZ0 (hw _ (List.mem_of_getElem? (i := 9) rfl))) (mvT hZ0 (hw _ (List.mem_of_getElem? (i := 10) rfl))) (by decide) (StrChars.Road.backV (W := 1) hZ0 hws (kI := 4) (hw _ (List.mem_of_getElem? (i := 5) rfl)) (cs := ([own_c p1 (0 : Int32), own_c p1 (1 : Int32)] : List Int32)) (bs := ([own_c p1 (0 : Int32), own_c p1 (1 : Int32)] : List Int32).map StrChars.lo8) (n := 2) ge_b9 Z14 f14_2 f14_3 f14_4 V14 (O2.ext f14_1.2) P5 rfl rfl (by decide) (by decide) (own_ok2 p1 0 1).1 rfl (by decide) (by decide)) (g := (mkF m 71 #[.val (.int p1), .val (.int (2 : Int32))] [(.ref b10), (.ref b9), (.ref b9)])) rfl (by rw [hml]; rfl) (Steps.refl _) (a := b9) (argsL := [(.ref b10)]) (rest := [(.ref b9)]) (lenOf pd_1 rfl) rfl (by show 2 * 0 + _ ≤ _; exact Nat.le_of_eq rfl) (hb hby d1_71) (fun _ _ => ⟨rfl, e14, (by first | decide | exact Nat.le_of_ble_eq_true rfl), (by first | decide | exact Nat.le_of_ble_eq_true rfl)⟩)
    dsimp only [Pt.U, Pt.locs, Pt.cells, Pt.slots] at X15 l15 y15 z15 st15 hQ15
    obtain ⟨rfl, N15, K15, GE15, GC15, t15, kb15, -, -, -, GV15, GA15⟩ := hQ15
    have X15 := own_sn X15 (k' := 3) (n' := 8) y15 z15
    have NF15 := own_fr l15 N14 N15
    have sf15_0 := Safe.keep K15 (sfS sf14_0 sf0) CR14.1 sf14_0
    have sf15_1 := Safe.keep K15 (sfS sf14_0 sf0) CR14.1 sf14_1
    have CR15 := CR14.trans (CHr.keep K15 (sfS sf14_0 sf0) CR14.1)
    have hk15 : 0 ≤ T15.heap.size := Nat.le_trans hk14 K15.1
    have f15_1 := f14_1.keep K15 (allS ge_b9 (all0))
    have f15_2 := f14_2.keep K15
    have f15_5 := V14.keep K15 (ninS (Ne.symm ne_b9_b10) nin0)
    have Z15 : n0 ≤ T15.heap.size := Nat.le_trans Z14 K15.1
    have KK15 := Keep.trans K14 K15 (by intro z hz; simp at hz; rcases hz with rfl; all_goals first | (left; simp; done) | (right; assumption))
    refine own_go (fun _ k => st15.trans k) ?_
    show own_Gl p.tables e below F (T15.setTop (mkF m 74 #[.val (.int p1), .val (.int (2 : Int32))] [(.ref b9)]))
    have OS : own_S Z T15.heap b9 (own_cs p1) := by rw [own_cs2 hm]; exact ⟨GE15, GC15, t15, kb15, GV15, GA15⟩
    obtain ⟨fs, hr, hrun, hended, hRW⟩ := Jvm.Stand.leaveW X15 hS0 (by exact hk15) (v := some (.ref b9)) (fun h => by rw [Bd.returns] at h; cases h)
    have CE : CHr Z own_EL s.vm s.heap T15.vm T15.heap := by rw [hh]; exact CR15.trans (CHv.at X15 hZ0 hEL CR15.1)
    subst hF
    refine own_fin ?_ ⟨hrun, hended, _, _, rfl, ?_, CE, hRW.1, hRW.2.1, hRW.2.2.1, hRW.2.2.2.mono (by first | decide | exact Nat.le_of_ble_eq_true rfl) (by first | decide | exact Nat.le_of_ble_eq_true rfl)⟩
    · exact own_retA X15 hx Bd.returns rfl rfl (hb hby d1_74) hr
    · show Q_rm1 Z _ _ h0 n0 _ T15.heap _
      exact ⟨b9, rfl, NF15, KK15, sz_b9, OS⟩
  · rw [hm]
    show own_Gl p.tables e below F (s₁.setTop (mkF m 4 #[.val (.int p1), .val (.int (3 : Int32))] []))
    refine own_go (fun _ k => XS.iloadN X0.here hx rfl (hb hby d1_4) rfl k) ?_
    show own_Gl p.tables e below F (s₁.setTop (mkF m 5 #[.val (.int p1), .val (.int (3 : Int32))] [(.int (3 : Int32))]))
    refine own_go (fun _ k => XS.ifYes X0.here hx rfl (pc0 := 5) (pc' := 19) rfl (hb hby d1_5) rfl (XT.i0_ne_t (by decide)) (by decide) (by decide) k) ?_
    show own_Gl p.tables e below F (s₁.setTop (mkF m 19 #[.val (.int p1), .val (.int (3 : Int32))] []))
    refine own_go (fun _ k => XS.iloadN X0.here hx rfl (hb hby d1_19) rfl k) ?_
    show own_Gl p.tables e below F (s₁.setTop (mkF m 20 #[.val (.int p1), .val (.int (3 : Int32))] [(.int (3 : Int32))]))
    refine own_go (fun _ k => XS.iconst X0.here hx rfl (hb hby d1_20) k) ?_
    show own_Gl p.tables e below F (s₁.setTop (mkF m 21 #[.val (.int p1), .val (.int (3 : Int32))] [(.int (1 : Int32)), (.int (3 : Int32))]))
    refine own_go (fun _ k => XS.icmpYes X0.here hx rfl (pc0 := 21) (pc' := 43) rfl (hb hby d1_21) rfl (XT.ii_ne_t (by decide)) (by decide) (by decide) k) ?_
    show own_Gl p.tables e below F (s₁.setTop (mkF m 43 #[.val (.int p1), .val (.int (3 : Int32))] []))
    refine own_go (fun _ k => XS.iloadN X0.here hx rfl (hb hby d1_43) rfl k) ?_
    show own_Gl p.tables e below F (s₁.setTop (mkF m 44 #[.val (.int p1), .val (.int (3 : Int32))] [(.int (3 : Int32))]))
    refine own_go (fun _ k => XS.iconst X0.here hx rfl (hb hby d1_44) k) ?_
    show own_Gl p.tables e below F (s₁.setTop (mkF m 45 #[.val (.int p1), .val (.int (3 : Int32))] [(.int (2 : Int32)), (.int (3 : Int32))]))
    refine own_go (fun _ k => XS.icmpYes X0.here hx rfl (pc0 := 45) (pc' := 75) rfl (hb hby d1_45) rfl (XT.ii_ne_t (by decide)) (by decide) (by decide) k) ?_
    show own_Gl p.tables e below F (s₁.setTop (mkF m 75 #[.val (.int p1), .val (.int (3 : Int32))] []))
    obtain ⟨T16, h16, X16, e16, E16, A16, D16, -, st16⟩ := newO X0 hx hZ0 hown0 (hw _ (List.mem_of_getElem? (i := 4) rfl)) (hw _ (List.mem_of_getElem? (i := 5) rfl)) (hw _ (List.mem_of_getElem? (i := 6) rfl)) e0 (g := (mkF m 75 #[.val (.int p1), .val (.int (3 : Int32))] [])) rfl (hb hby d1_75) (by first | decide | exact Nat.le_of_ble_eq_true rfl) (by first | decide | exact Nat.le_of_ble_eq_true rfl)
    obtain ⟨b16, g16⟩ : ∃ z, z = h0.size := ⟨_, rfl⟩
    rw [← g16] at A16 D16 st16
    have ge_b16 : n0 ≤ b16 := Nat.le_trans Z0 (Nat.le_of_eq g16.symm)
    have sz_b16 : h0.size ≤ b16 := Nat.le_trans ((Keep.refl h0 [])).1 (Nat.le_of_eq g16.symm)
    have sf_b16 := Safe.ext E16 CR0.1 (Safe.new (Z := Z) (EL := own_EL) (vm := s.vm) (Nat.le_of_eq g16.symm))
    have f16_0 := OO.ext E16
    have Z16 : n0 ≤ h16.size := Nat.le_trans Z0 E16.1
    have K16 := Keep.ext (Keep.refl h0 []) E16
    have CR16 := CR0.trans (CHr.ext E16 CR0.1)
    have hk16 : 0 ≤ h16.size := Nat.le_trans hk0 E16.1
    have F16_value : Fld Z h16 b16 "java/lang/String" "value" "[B" .null := D16 (Or.inr (hw _ (List.mem_of_getElem? (i := 20) rfl))) (ty := (.array .byte)) (by decide)
    have F16_coder : Fld Z h16 b16 "java/lang/String" "coder" "B" (.int (0 : Int32)) := D16 (Or.inr (hw _ (List.mem_of_getElem? (i := 21) rfl))) (ty := .byte) (by decide)
    have X16 : Stand _ _ _ _ _ _ _ _ _ _ _ _ 1 4 := X16
    refine own_go st16 ?_
    show own_Gl p.tables e below F (T16.setTop (mkF m 78 #[.val (.int p1), .val (.int (3 : Int32))] [(.ref b16)]))
    refine own_go (fun _ k => XS.dup X16.here hx rfl (hb hby d1_78) rfl rfl k) ?_
    show own_Gl p.tables e below F (T16.setTop (mkF m 79 #[.val (.int p1), .val (.int (3 : Int32))] [(.ref b16), (.ref b16)]))
    refine own_go (fun _ k => XS.iconst X16.here hx rfl (hb hby d1_79) k) ?_
    show own_Gl p.tables e below F (T16.setTop (mkF m 80 #[.val (.int p1), .val (.int (3 : Int32))] [(.int (3 : Int32)), (.ref b16), (.ref b16)]))
    obtain ⟨T17, h17, k17, X17, e17, E17, A17, st17⟩ := newP X16 hx hZ0 (hw _ (List.mem_of_getElem? (i := 7) rfl)) e16 (g := (mkF m 80 #[.val (.int p1), .val (.int (3 : Int32))] [(.int (3 : Int32)), (.ref b16), (.ref b16)])) rfl (hb hby d1_80) rfl (by decide) (cap := 3) (by decide) (by decide) (by decide) (by decide)
    obtain ⟨b17, g17⟩ : ∃ z, z = h16.size := ⟨_, rfl⟩
    rw [← g17] at A17 st17
    have ne_b16_b17 : b16 ≠ b17 := Nat.ne_of_lt (Nat.lt_of_lt_of_le A16.lt (Nat.le_of_eq g17.symm))
    have ge_b17 : n0 ≤ b17 := Nat.le_trans Z16 (Nat.le_of_eq g17.symm)
    have sz_b17 : h0.size ≤ b17 := Nat.le_trans (K16).1 (Nat.le_of_eq g17.symm)
    have sf_b17 := Safe.ext E17 CR16.1 (Safe.new (Z := Z) (EL := own_EL) (vm := s.vm) (Nat.le_of_eq g17.symm))
    have f17_0 := f16_0.ext E17
    have f17_1 := A16.ext E17
    have f17_2 := F16_value.ext E17
    have f17_3 := F16_coder.ext E17
    have Z17 : n0 ≤ h17.size := Nat.le_trans Z16 E17.1
    have K17 := Keep.ext K16 E17
    have sf17_0 := Safe.ext E17 CR16.1 sf_b16
    have CR17 := CR16.trans (CHr.ext E17 CR16.1)
    have hk17 : 0 ≤ h17.size := Nat.le_trans hk16 E17.1
    have V17 : Arv Z h17 b17 k17 .char (3 : Int32) [(.int (0 : Int32)), (.int (0 : Int32)), (.int (0 : Int32))] (.int (0 : Int32)) := (Arv.new A17 (by decide)).pad (pad_rep [] (.int (0 : Int32)) 3)
    have X17 : Stand _ _ _ _ _ _ _ _ _ _ _ _ 2 7 := X17
    refine own_go st17 ?_
    show own_Gl p.tables e below F (T17.setTop (mkF m 82 #[.val (.int p1), .val (.int (3 : Int32))] [(.ref b17), (.ref b16), (.ref b16)]))
    refine own_go (fun _ k => XS.dup X17.here hx rfl (hb hby d1_82) rfl rfl k) ?_
    show own_Gl p.tables e below F (T17.setTop (mkF m 83 #[.val (.int p1), .val (.int (3 : Int32))] [(.ref b17), (.ref b17), (.ref b16), (.ref b16)]))
    refine own_go (fun _ k => XS.iconst X17.here hx rfl (hb hby d1_83) k) ?_
    show own_Gl p.tables e below F (T17.setTop (mkF m 84 #[.val (.int p1), .val (.int (3 : Int32))] [(.int (0 : Int32)), (.ref b17), (.ref b17), (.ref b16), (.ref b16)]))
    refine own_go (fun _ k => XS.iloadN X17.here hx rfl (hb hby d1_84) rfl k) ?_
    show own_Gl p.tables e below F (T17.setTop (mkF m 85 #[.val (.int p1), .val (.int (3 : Int32))] [(.int p1), (.int (0 : Int32)), (.ref b17), (.ref b17), (.ref b16), (.ref b16)]))
    refine own_go (fun _ k => XS.iconst X17.here hx rfl (hb hby d1_85) k) ?_
    show own_Gl p.tables e below F (T17.setTop (mkF m 86 #[.val (.int p1), .val (.int (3 : Int32))] [(.int (0 : Int32)), (.int p1), (.int (0 : Int32)), (.ref b17), (.ref b17), (.ref b16), (.ref b16)]))
    obtain ⟨_, _, ⟨T18, L18, k18, n18⟩, -, X18, ⟨Lc18, hQ18, l18, y18, z18⟩, st18⟩ := Jvm.LawKit.callS X17 hx (y := (⟨"com/example/cores_from_twigs/coresfromtwigs/constraints/ConstraintEqualsPinLaw", "ch", "(II)C"⟩ : MethodName)) hown0 (mvT hZ0 (hw _ (List.mem_of_getElem? (i := 26) rfl))) (mvT hZ0 (hw _ (List.mem_of_getElem? (i := 27) rfl))) (mvT hZ0 (hw _ (List.mem_of_getElem? (i := 2) rfl))) (mvT hZ0 (hw _ (List.mem_of_getElem? (i := 28) rfl))) (by decide) (backOf (W := 5) (rm5 l Z a0 hw [] p1 (0 : Int32)  h17 n0 Z17 ) hZ0 (hw _ (List.mem_of_getElem? (i := 28) rfl)) (hw _ (List.mem_of_getElem? (i := 2) rfl)) (by decide) (by decide)) (g := (mkF m 86 #[.val (.int p1), .val (.int (3 : Int32))] [(.int (0 : Int32)), (.int p1), (.int (0 : Int32)), (.ref b17), (.ref b17), (.ref b16), (.ref b16)])) rfl (by rw [hml]; rfl) (argsL := [(.int p1), (.int (0 : Int32))]) (rest := [(.int (0 : Int32)), (.ref b17), (.ref b17), (.ref b16), (.ref b16)]) (lenOf pd_2 rfl) rfl (by show 2 * 0 + _ ≤ _; exact Nat.le_of_eq rfl) (hb hby d1_86) (fun _ _ => ⟨rfl, e17, (by first | decide | exact Nat.le_of_ble_eq_true rfl), (by first | decide | exact Nat.le_of_ble_eq_true rfl)⟩)
    dsimp only [Pt.U, Pt.locs, Pt.cells, Pt.slots] at X18 l18 y18 z18 st18 hQ18
    obtain ⟨rfl, N18, e18⟩ := hQ18
    have X18 := own_sn X18 (k' := 2) (n' := 7) y18 z18
    have NF18 := own_fr l18 N0 N18
    refine own_go st18 ?_
    show own_Gl p.tables e below F (T18.setTop (mkF m 89 #[.val (.int p1), .val (.int (3 : Int32))] [(.int (own_c p1 (0 : Int32))), (.int (0 : Int32)), (.ref b17), (.ref b17), (.ref b16), (.ref b16)]))
    obtain ⟨cl19, Ar19, ak19, aS19, aN19, aH19, aG19⟩ := id V17
    have hin19 : ¬ ((0 : Int32) < 0 ∨ cl19.slots.size ≤ ((0 : Int32)).toNatClampNeg) := inb_of aS19 ⟨by decide, by decide⟩
    obtain ⟨T19, h19, X19, e19, W19, st19⟩ := stC X18 hx hZ0 e18 Ar19 (j := (0 : Int32)) hin19 (g := (mkF m 89 #[.val (.int p1), .val (.int (3 : Int32))] [(.int (own_c p1 (0 : Int32))), (.int (0 : Int32)), (.ref b17), (.ref b17), (.ref b16), (.ref b16)])) rfl rfl (hb hby d1_89)
    have V19 : Arv Z h19 b17 k17 .char (3 : Int32) [(.int (nar .char (own_c p1 (0 : Int32)))), (.int (0 : Int32)), (.int (0 : Int32))] (.int (0 : Int32)) := Arv.set Ar19 ak19 aS19 aN19 aH19 aG19 (fits_nar_char _) W19 0 rfl (by first | decide | exact Nat.le_of_ble_eq_true rfl | simp)
    have f19_1 := f17_0.wr W19 ge_b17
    have f19_2 := f17_1.wr W19
    have f19_3 := f17_2.other W19 (Or.inl ne_b16_b17)
    have f19_4 := f17_3.other W19 (Or.inl ne_b16_b17)
    have Z19 : n0 ≤ h19.size := by rw [W19.size]; exact Z17
    have K19 := Keep.wr K17 W19 (Or.inr sz_b17)
    have sf19_0 := Safe.wr W19 sf_b17 CR17.1 sf17_0
    have sf19_1 := Safe.wr W19 sf_b17 CR17.1 sf_b17
    have CR19 := CR17.trans (CHr.wr W19 sf_b17 CR17.1)
    have hk19 : 0 ≤ h19.size := by rw [W19.size]; exact hk17
    have N19 := Fr.snoc X19 NF18 ge_b17
    refine own_go st19 ?_
    show own_Gl p.tables e below F (T19.setTop (mkF m 90 #[.val (.int p1), .val (.int (3 : Int32))] [(.ref b17), (.ref b16), (.ref b16)]))
    refine own_go (fun _ k => XS.dup X19.here hx rfl (hb hby d1_90) rfl rfl k) ?_
    show own_Gl p.tables e below F (T19.setTop (mkF m 91 #[.val (.int p1), .val (.int (3 : Int32))] [(.ref b17), (.ref b17), (.ref b16), (.ref b16)]))
    refine own_go (fun _ k => XS.iconst X19.here hx rfl (hb hby d1_91) k) ?_
    show own_Gl p.tables e below F (T19.setTop (mkF m 92 #[.val (.int p1), .val (.int (3 : Int32))] [(.int (1 : Int32)), (.ref b17), (.ref b17), (.ref b16), (.ref b16)]))
    refine own_go (fun _ k => XS.iloadN X19.here hx rfl (hb hby d1_92) rfl k) ?_
    show own_Gl p.tables e below F (T19.setTop (mkF m 93 #[.val (.int p1), .val (.int (3 : Int32))] [(.int p1), (.int (1 : Int32)), (.ref b17), (.ref b17), (.ref b16), (.ref b16)]))
    refine own_go (fun _ k => XS.iconst X19.here hx rfl (hb hby d1_93) k) ?_
    show own_Gl p.tables e below F (T19.setTop (mkF m 94 #[.val (.int p1), .val (.int (3 : Int32))] [(.int (1 : Int32)), (.int p1), (.int (1 : Int32)), (.ref b17), (.ref b17), (.ref b16), (.ref b16)]))
    obtain ⟨_, _, ⟨T20, L20, k20, n20⟩, -, X20, ⟨Lc20, hQ20, l20, y20, z20⟩, st20⟩ := Jvm.LawKit.callS X19 hx (y := (⟨"com/example/cores_from_twigs/coresfromtwigs/constraints/ConstraintEqualsPinLaw", "ch", "(II)C"⟩ : MethodName)) hown0 (mvT hZ0 (hw _ (List.mem_of_getElem? (i := 26) rfl))) (mvT hZ0 (hw _ (List.mem_of_getElem? (i := 27) rfl))) (mvT hZ0 (hw _ (List.mem_of_getElem? (i := 2) rfl))) (mvT hZ0 (hw _ (List.mem_of_getElem? (i := 28) rfl))) (by decide) (backOf (W := 5) (rm5 l Z a0 hw [] p1 (1 : Int32)  h19 n0 Z19 ) hZ0 (hw _ (List.mem_of_getElem? (i := 28) rfl)) (hw _ (List.mem_of_getElem? (i := 2) rfl)) (by decide) (by decide)) (g := (mkF m 94 #[.val (.int p1), .val (.int (3 : Int32))] [(.int (1 : Int32)), (.int p1), (.int (1 : Int32)), (.ref b17), (.ref b17), (.ref b16), (.ref b16)])) rfl (by rw [hml]; rfl) (argsL := [(.int p1), (.int (1 : Int32))]) (rest := [(.int (1 : Int32)), (.ref b17), (.ref b17), (.ref b16), (.ref b16)]) (lenOf pd_2 rfl) rfl (by show 2 * 0 + _ ≤ _; exact Nat.le_of_eq rfl) (hb hby d1_94) (fun _ _ => ⟨rfl, e19, (by first | decide | exact Nat.le_of_ble_eq_true rfl), (by first | decide | exact Nat.le_of_ble_eq_true rfl)⟩)
    dsimp only [Pt.U, Pt.locs, Pt.cells, Pt.slots] at X20 l20 y20 z20 st20 hQ20
    obtain ⟨rfl, N20, e20⟩ := hQ20
    have X20 := own_sn X20 (k' := 2) (n' := 7) y20 z20
    have NF20 := own_fr l20 N19 N20
    refine own_go st20 ?_
    show own_Gl p.tables e below F (T20.setTop (mkF m 97 #[.val (.int p1), .val (.int (3 : Int32))] [(.int (own_c p1 (1 : Int32))), (.int (1 : Int32)), (.ref b17), (.ref b17), (.ref b16), (.ref b16)]))
    obtain ⟨cl21, Ar21, ak21, aS21, aN21, aH21, aG21⟩ := id V19
    have hin21 : ¬ ((1 : Int32) < 0 ∨ cl21.slots.size ≤ ((1 : Int32)).toNatClampNeg) := inb_of aS21 ⟨by decide, by decide⟩
    obtain ⟨T21, h21, X21, e21, W21, st21⟩ := stC X20 hx hZ0 e20 Ar21 (j := (1 : Int32)) hin21 (g := (mkF m 97 #[.val (.int p1), .val (.int (3 : Int32))] [(.int (own_c p1 (1 : Int32))), (.int (1 : Int32)), (.ref b17), (.ref b17), (.ref b16), (.ref b16)])) rfl rfl (hb hby d1_97)
    have V21 : Arv Z h21 b17 k17 .char (3 : Int32) [(.int (nar .char (own_c p1 (0 : Int32)))), (.int (nar .char (own_c p1 (1 : Int32)))), (.int (0 : Int32))] (.int (0 : Int32)) := Arv.set Ar21 ak21 aS21 aN21 aH21 aG21 (fits_nar_char _) W21 1 rfl (by first | decide | exact Nat.le_of_ble_eq_true rfl | simp)
    have f21_1 := f19_1.wr W21 ge_b17
    have f21_2 := f19_2.wr W21
    have f21_3 := f19_3.other W21 (Or.inl ne_b16_b17)
    have f21_4 := f19_4.other W21 (Or.inl ne_b16_b17)
    have Z21 : n0 ≤ h21.size := by rw [W21.size]; exact Z19
    have K21 := Keep.wr K19 W21 (Or.inr sz_b17)
    have sf21_0 := Safe.wr W21 sf19_1 CR19.1 sf19_0
    have sf21_1 := Safe.wr W21 sf19_1 CR19.1 sf19_1
    have CR21 := CR19.trans (CHr.wr W21 sf19_1 CR19.1)
    have hk21 : 0 ≤ h21.size := by rw [W21.size]; exact hk19
    have N21 := Fr.snoc X21 NF20 ge_b17
    refine own_go st21 ?_
    show own_Gl p.tables e below F (T21.setTop (mkF m 98 #[.val (.int p1), .val (.int (3 : Int32))] [(.ref b17), (.ref b16), (.ref b16)]))
    refine own_go (fun _ k => XS.dup X21.here hx rfl (hb hby d1_98) rfl rfl k) ?_
    show own_Gl p.tables e below F (T21.setTop (mkF m 99 #[.val (.int p1), .val (.int (3 : Int32))] [(.ref b17), (.ref b17), (.ref b16), (.ref b16)]))
    refine own_go (fun _ k => XS.iconst X21.here hx rfl (hb hby d1_99) k) ?_
    show own_Gl p.tables e below F (T21.setTop (mkF m 100 #[.val (.int p1), .val (.int (3 : Int32))] [(.int (2 : Int32)), (.ref b17), (.ref b17), (.ref b16), (.ref b16)]))
    refine own_go (fun _ k => XS.iloadN X21.here hx rfl (hb hby d1_100) rfl k) ?_
    show own_Gl p.tables e below F (T21.setTop (mkF m 101 #[.val (.int p1), .val (.int (3 : Int32))] [(.int p1), (.int (2 : Int32)), (.ref b17), (.ref b17), (.ref b16), (.ref b16)]))
    refine own_go (fun _ k => XS.iconst X21.here hx rfl (hb hby d1_101) k) ?_
    show own_Gl p.tables e below F (T21.setTop (mkF m 102 #[.val (.int p1), .val (.int (3 : Int32))] [(.int (2 : Int32)), (.int p1), (.int (2 : Int32)), (.ref b17), (.ref b17), (.ref b16), (.ref b16)]))
    obtain ⟨_, _, ⟨T22, L22, k22, n22⟩, -, X22, ⟨Lc22, hQ22, l22, y22, z22⟩, st22⟩ := Jvm.LawKit.callS X21 hx (y := (⟨"com/example/cores_from_twigs/coresfromtwigs/constraints/ConstraintEqualsPinLaw", "ch", "(II)C"⟩ : MethodName)) hown0 (mvT hZ0 (hw _ (List.mem_of_getElem? (i := 26) rfl))) (mvT hZ0 (hw _ (List.mem_of_getElem? (i := 27) rfl))) (mvT hZ0 (hw _ (List.mem_of_getElem? (i := 2) rfl))) (mvT hZ0 (hw _ (List.mem_of_getElem? (i := 28) rfl))) (by decide) (backOf (W := 5) (rm5 l Z a0 hw [] p1 (2 : Int32)  h21 n0 Z21 ) hZ0 (hw _ (List.mem_of_getElem? (i := 28) rfl)) (hw _ (List.mem_of_getElem? (i := 2) rfl)) (by decide) (by decide)) (g := (mkF m 102 #[.val (.int p1), .val (.int (3 : Int32))] [(.int (2 : Int32)), (.int p1), (.int (2 : Int32)), (.ref b17), (.ref b17), (.ref b16), (.ref b16)])) rfl (by rw [hml]; rfl) (argsL := [(.int p1), (.int (2 : Int32))]) (rest := [(.int (2 : Int32)), (.ref b17), (.ref b17), (.ref b16), (.ref b16)]) (lenOf pd_2 rfl) rfl (by show 2 * 0 + _ ≤ _; exact Nat.le_of_eq rfl) (hb hby d1_102) (fun _ _ => ⟨rfl, e21, (by first | decide | exact Nat.le_of_ble_eq_true rfl), (by first | decide | exact Nat.le_of_ble_eq_true rfl)⟩)
    dsimp only [Pt.U, Pt.locs, Pt.cells, Pt.slots] at X22 l22 y22 z22 st22 hQ22
    obtain ⟨rfl, N22, e22⟩ := hQ22
    have X22 := own_sn X22 (k' := 2) (n' := 7) y22 z22
    have NF22 := own_fr l22 N21 N22
    refine own_go st22 ?_
    show own_Gl p.tables e below F (T22.setTop (mkF m 105 #[.val (.int p1), .val (.int (3 : Int32))] [(.int (own_c p1 (2 : Int32))), (.int (2 : Int32)), (.ref b17), (.ref b17), (.ref b16), (.ref b16)]))
    obtain ⟨cl23, Ar23, ak23, aS23, aN23, aH23, aG23⟩ := id V21
    have hin23 : ¬ ((2 : Int32) < 0 ∨ cl23.slots.size ≤ ((2 : Int32)).toNatClampNeg) := inb_of aS23 ⟨by decide, by decide⟩
    obtain ⟨T23, h23, X23, e23, W23, st23⟩ := stC X22 hx hZ0 e22 Ar23 (j := (2 : Int32)) hin23 (g := (mkF m 105 #[.val (.int p1), .val (.int (3 : Int32))] [(.int (own_c p1 (2 : Int32))), (.int (2 : Int32)), (.ref b17), (.ref b17), (.ref b16), (.ref b16)])) rfl rfl (hb hby d1_105)
    have V23 : Arv Z h23 b17 k17 .char (3 : Int32) [(.int (nar .char (own_c p1 (0 : Int32)))), (.int (nar .char (own_c p1 (1 : Int32)))), (.int (nar .char (own_c p1 (2 : Int32))))] (.int (0 : Int32)) := Arv.set Ar23 ak23 aS23 aN23 aH23 aG23 (fits_nar_char _) W23 2 rfl (by first | decide | exact Nat.le_of_ble_eq_true rfl | simp)
    have f23_1 := f21_1.wr W23 ge_b17
    have f23_2 := f21_2.wr W23
    have f23_3 := f21_3.other W23 (Or.inl ne_b16_b17)
    have f23_4 := f21_4.other W23 (Or.inl ne_b16_b17)
    have Z23 : n0 ≤ h23.size := by rw [W23.size]; exact Z21
    have K23 := Keep.wr K21 W23 (Or.inr sz_b17)
    have sf23_0 := Safe.wr W23 sf21_1 CR21.1 sf21_0
    have sf23_1 := Safe.wr W23 sf21_1 CR21.1 sf21_1
    have CR23 := CR21.trans (CHr.wr W23 sf21_1 CR21.1)
    have hk23 : 0 ≤ h23.size := by rw [W23.size]; exact hk21
    have N23 := Fr.snoc X23 NF22 ge_b17
    refine own_go st23 ?_
    show own_Gl p.tables e below F (T23.setTop (mkF m 106 #[.val (.int p1), .val (.int (3 : Int32))] [(.ref b17), (.ref b16), (.ref b16)]))
    simp only [own_nc] at V23
    obtain ⟨_, _, ⟨T24, L24, k24, n24⟩, -, X24, ⟨Lc24, hQ24, l24, y24, z24⟩, st24⟩ := X23.specialBack hx (y := (⟨"java/lang/String", "<init>", "([C)V"⟩ : MethodName)) rfl hown0 (mvT hZ0 (hw _ (List.mem_of_getElem? (i := 8) rfl))) (mvT hZ0 (hw _ (List.mem_of_getElem? (i := 9) rfl))) (mvT hZ0 (hw _ (List.mem_of_getElem? (i := 10) rfl))) (by decide) (StrChars.Road.backV (W := 1) hZ0 hws (kI := 4) (hw _ (List.mem_of_getElem? (i := 5) rfl)) (cs := ([own_c p1 (0 : Int32), own_c p1 (1 : Int32), own_c p1 (2 : Int32)] : List Int32)) (bs := ([own_c p1 (0 : Int32), own_c p1 (1 : Int32), own_c p1 (2 : Int32)] : List Int32).map StrChars.lo8) (n := 3) ge_b16 Z23 f23_2 f23_3 f23_4 V23 (O2.ext f23_1.2) P5 rfl rfl (by decide) (by decide) (own_ok3 p1 0 1 2).1 rfl (by decide) (by decide)) (g := (mkF m 106 #[.val (.int p1), .val (.int (3 : Int32))] [(.ref b17), (.ref b16), (.ref b16)])) rfl (by rw [hml]; rfl) (Steps.refl _) (a := b16) (argsL := [(.ref b17)]) (rest := [(.ref b16)]) (lenOf pd_1 rfl) rfl (by show 2 * 0 + _ ≤ _; exact Nat.le_of_eq rfl) (hb hby d1_106) (fun _ _ => ⟨rfl, e23, (by first | decide | exact Nat.le_of_ble_eq_true rfl), (by first | decide | exact Nat.le_of_ble_eq_true rfl)⟩)
    dsimp only [Pt.U, Pt.locs, Pt.cells, Pt.slots] at X24 l24 y24 z24 st24 hQ24
    obtain ⟨rfl, N24, K24, GE24, GC24, t24, kb24, -, -, -, GV24, GA24⟩ := hQ24
    have X24 := own_sn X24 (k' := 3) (n' := 10) y24 z24
    have NF24 := own_fr l24 N23 N24
    have sf24_0 := Safe.keep K24 (sfS sf23_0 sf0) CR23.1 sf23_0
    have sf24_1 := Safe.keep K24 (sfS sf23_0 sf0) CR23.1 sf23_1
    have CR24 := CR23.trans (CHr.keep K24 (sfS sf23_0 sf0) CR23.1)
    have hk24 : 0 ≤ T24.heap.size := Nat.le_trans hk23 K24.1
    have f24_1 := f23_1.keep K24 (allS ge_b16 (all0))
    have f24_2 := f23_2.keep K24
    have f24_5 := V23.keep K24 (ninS (Ne.symm ne_b16_b17) nin0)
    have Z24 : n0 ≤ T24.heap.size := Nat.le_trans Z23 K24.1
    have KK24 := Keep.trans K23 K24 (by intro z hz; simp at hz; rcases hz with rfl; all_goals first | (left; simp; done) | (right; assumption))
    refine own_go (fun _ k => st24.trans k) ?_
    show own_Gl p.tables e below F (T24.setTop (mkF m 109 #[.val (.int p1), .val (.int (3 : Int32))] [(.ref b16)]))
    have OS : own_S Z T24.heap b16 (own_cs p1) := by rw [own_cs3 hm]; exact ⟨GE24, GC24, t24, kb24, GV24, GA24⟩
    obtain ⟨fs, hr, hrun, hended, hRW⟩ := Jvm.Stand.leaveW X24 hS0 (by exact hk24) (v := some (.ref b16)) (fun h => by rw [Bd.returns] at h; cases h)
    have CE : CHr Z own_EL s.vm s.heap T24.vm T24.heap := by rw [hh]; exact CR24.trans (CHv.at X24 hZ0 hEL CR24.1)
    subst hF
    refine own_fin ?_ ⟨hrun, hended, _, _, rfl, ?_, CE, hRW.1, hRW.2.1, hRW.2.2.1, hRW.2.2.2.mono (by first | decide | exact Nat.le_of_ble_eq_true rfl) (by first | decide | exact Nat.le_of_ble_eq_true rfl)⟩
    · exact own_retA X24 hx Bd.returns rfl rfl (hb hby d1_109) hr
    · show Q_rm1 Z _ _ h0 n0 _ T24.heap _
      exact ⟨b16, rfl, NF24, KK24, sz_b16, OS⟩
theorem ef_rm9 (m : MethodId) (x0 : Int32) : entryFrame m #[(.int x0)] 1 = mkF m 0 #[.val (.int x0)] [] := by first | (simp [entryFrame, mkF, argsToLocals, Value.category]; done) | rfl
theorem d9_0 : decode method_6_code 0 = .ok (.iload_n 0, 1) := by decide +kernel
theorem d9_1 : decode method_6_code 1 = .ok (.ifCond .ne 7, 3) := by decide +kernel
theorem d9_4 : decode method_6_code 4 = .ok (.getstatic 39, 3) := by decide +kernel
theorem d9_7 : decode method_6_code 7 = .ok (.areturn, 1) := by decide +kernel
theorem d9_8 : decode method_6_code 8 = .ok (.iload_n 0, 1) := by decide +kernel
theorem d9_9 : decode method_6_code 9 = .ok (.iconst 1, 1) := by decide +kernel
theorem d9_10 : decode method_6_code 10 = .ok (.if_icmp .ne 7, 3) := by decide +kernel
theorem d9_13 : decode method_6_code 13 = .ok (.getstatic 45, 3) := by decide +kernel
theorem d9_16 : decode method_6_code 16 = .ok (.areturn, 1) := by decide +kernel
theorem d9_17 : decode method_6_code 17 = .ok (.iload_n 0, 1) := by decide +kernel
theorem d9_18 : decode method_6_code 18 = .ok (.iconst 2, 1) := by decide +kernel
theorem d9_19 : decode method_6_code 19 = .ok (.if_icmp .ne 7, 3) := by decide +kernel
theorem d9_22 : decode method_6_code 22 = .ok (.getstatic 48, 3) := by decide +kernel
theorem d9_25 : decode method_6_code 25 = .ok (.areturn, 1) := by decide +kernel
theorem d9_26 : decode method_6_code 26 = .ok (.getstatic 51, 3) := by decide +kernel
theorem d9_29 : decode method_6_code 29 = .ok (.areturn, 1) := by decide +kernel
def Q_rm9 (Z : State) (p1 : Int32) (o0 o1 o2 o3 : Addr) (h0 : Heap) (n0 : Nat) (v : Option Value) (h : Heap) (L : List Loc) : Prop := v = some (.ref (own_rel o0 o1 o2 o3 p1)) ∧ Fr n0 L ∧ h = h0
set_option maxRecDepth 65536 in
set_option maxHeartbeats 40000000 in
theorem rm9 (l : Launch) (Z : State) (a0 : Array Value) (hw : ∀ d ∈ tables_1, d.before a0 Z = true) (ws : List Jvm.Cond) (p1 : Int32) (o0 o1 o2 o3 : Addr) (h0 : Heap) (n0 : Nat) (Z0 : n0 ≤ h0.size) (OO : Old Z n0 h0) (S0 : Sta Z Z.heap "com/example/cores_from_twigs/coresfromtwigs/constraints/Relation" "CHILD" "Lcom/example/cores_from_twigs/coresfromtwigs/constraints/Relation;" (.ref o0)) (S1 : Sta Z Z.heap "com/example/cores_from_twigs/coresfromtwigs/constraints/Relation" "DESCENDANT" "Lcom/example/cores_from_twigs/coresfromtwigs/constraints/Relation;" (.ref o1)) (S2 : Sta Z Z.heap "com/example/cores_from_twigs/coresfromtwigs/constraints/Relation" "PARENT" "Lcom/example/cores_from_twigs/coresfromtwigs/constraints/Relation;" (.ref o2)) (S3 : Sta Z Z.heap "com/example/cores_from_twigs/coresfromtwigs/constraints/Relation" "ANCESTOR" "Lcom/example/cores_from_twigs/coresfromtwigs/constraints/Relation;" (.ref o3)) (hp : p1 = 0 ∨ p1 = 1 ∨ p1 = 2 ∨ p1 = 3) :
    MetFree l (⟨"com/example/cores_from_twigs/coresfromtwigs/constraints/ConstraintEqualsPinLaw", "rel", "(I)Lcom/example/cores_from_twigs/coresfromtwigs/constraints/Relation;"⟩ : MethodName) (head1 (Jvm.Cond.code (⟨"com/example/cores_from_twigs/coresfromtwigs/constraints/ConstraintEqualsPinLaw", "rel", "(I)Lcom/example/cores_from_twigs/coresfromtwigs/constraints/Relation;"⟩ : MethodName) method_6_code 1 (some (.object "com/example/cores_from_twigs/coresfromtwigs/constraints/Relation")) :: ws) ({ frames := 0, cells := 0, slots := 0, locals := 0 } : Room)) (fun ag U => ag = #[(.int p1)] ∧ Z.Warmed39 U.vm ∧ U.heap = h0) (fun _ _ _ _ _ => True) (fun _ U o U' => ∃ v L, o = .returned v ∧ Q_rm9 Z p1 o0 o1 o2 o3 h0 n0 v U'.heap L ∧ FrameEnd U o U' L ({ frames := 0, cells := 0, slots := 0, locals := 0 } : Room).cells ({ frames := 0, cells := 0, slots := 0, locals := 0 } : Room).slots) := by
  refine MetFree.of_bodySF (plainFor_of_name pn_1) hisR ?_
  intro p e s m args below meth c s₁ Bd hml0 hP hK
  obtain ⟨rfl, hZ, hh⟩ := hP
  have hx := Bd.exec
  have hby := Bd.bytes
  have hml : c.maxLocals = 1 := hml0
  have hown : s.vm.findClass "com/example/cores_from_twigs/coresfromtwigs/constraints/ConstraintEqualsPinLaw" = some m.cls := findClass_of_methodNamed Bd.named
  have hnm := (name_of_methodNamed Bd.named Bd.method).1
  have X0 : Stand p l e ({ frames := 0, cells := 0, slots := 0, locals := 0 } : Room) s m #[(.int p1)] below meth c s₁ [] 0 0 := Stand.of_body Bd
  have e0 : s₁.heap = h0 := by rw [← hh, Bd.state]; rfl
  have N0 := Fr.nil n0
  refine own_start (ef_rm9 m p1) ?_
  intro F hF
  show own_Gl p.tables e below F (s₁.setTop (mkF m 0 #[.val (.int p1)] []))
  have U0 := S0.ext OO.2
  have U1 := S1.ext OO.2
  have U2 := S2.ext OO.2
  have U3 := S3.ext OO.2
  rcases hp with rfl | rfl | rfl | rfl
  · show own_Gl p.tables e below F (s₁.setTop (mkF m 0 #[.val (.int (0 : Int32))] []))
    refine own_go (fun _ k => XS.iloadN X0.here hx rfl (hb hby d9_0) rfl k) ?_
    show own_Gl p.tables e below F (s₁.setTop (mkF m 1 #[.val (.int (0 : Int32))] [(.int (0 : Int32))]))
    refine own_go (fun _ k => XS.ifNo X0.here hx rfl (hb hby d9_1) rfl (XT.i0_ne_f rfl) k) ?_
    show own_Gl p.tables e below F (s₁.setTop (mkF m 4 #[.val (.int (0 : Int32))] []))
    obtain ⟨T1, X1, e1, st1⟩ := getS2 X0 hx hZ hown (host := "") (Or.inl (hw _ (List.mem_of_getElem? (i := 43) rfl))) Via.refl e0 U0 (g := (mkF m 4 #[.val (.int (0 : Int32))] [])) rfl (hb hby d9_4)
    refine own_go st1 ?_
    show own_Gl p.tables e below F (T1.setTop (mkF m 7 #[.val (.int (0 : Int32))] [(.ref o0)]))
    obtain ⟨fs, hr, hrun, hended, hW, hsame⟩ := X1.leave (v := some (.ref o0)) (fun h => by rw [Bd.returns] at h; cases h)
    subst hF
    refine own_fin ?_ ⟨hrun, hended, _, _, rfl, ?_, ⟨_, rfl⟩, hW, hsame.mono (by first | decide | exact Nat.le_of_ble_eq_true rfl) (by first | decide | exact Nat.le_of_ble_eq_true rfl)⟩
    · exact own_retA X1 hx Bd.returns rfl rfl (hb hby d9_7) hr
    · show Q_rm9 Z _ _ _ _ _ h0 n0 _ T1.heap _
      rw [e1]
      exact ⟨rfl, N0, rfl⟩
  · show own_Gl p.tables e below F (s₁.setTop (mkF m 0 #[.val (.int (1 : Int32))] []))
    refine own_go (fun _ k => XS.iloadN X0.here hx rfl (hb hby d9_0) rfl k) ?_
    show own_Gl p.tables e below F (s₁.setTop (mkF m 1 #[.val (.int (1 : Int32))] [(.int (1 : Int32))]))
    refine own_go (fun _ k => XS.ifYes X0.here hx rfl (pc0 := 1) (pc' := 8) rfl (hb hby d9_1) rfl (XT.i0_ne_t (by decide)) (by decide) (by decide) k) ?_
    show own_Gl p.tables e below F (s₁.setTop (mkF m 8 #[.val (.int (1 : Int32))] []))
    refine own_go (fun _ k => XS.iloadN X0.here hx rfl (hb hby d9_8) rfl k) ?_
    show own_Gl p.tables e below F (s₁.setTop (mkF m 9 #[.val (.int (1 : Int32))] [(.int (1 : Int32))]))
    refine own_go (fun _ k => XS.iconst X0.here hx rfl (hb hby d9_9) k) ?_
    show own_Gl p.tables e below F (s₁.setTop (mkF m 10 #[.val (.int (1 : Int32))] [(.int (1 : Int32)), (.int (1 : Int32))]))
    refine own_go (fun _ k => XS.icmpNo X0.here hx rfl (hb hby d9_10) rfl (XT.ii_ne_f rfl) k) ?_
    show own_Gl p.tables e below F (s₁.setTop (mkF m 13 #[.val (.int (1 : Int32))] []))
    obtain ⟨T2, X2, e2, st2⟩ := getS2 X0 hx hZ hown (host := "") (Or.inl (hw _ (List.mem_of_getElem? (i := 93) rfl))) Via.refl e0 U1 (g := (mkF m 13 #[.val (.int (1 : Int32))] [])) rfl (hb hby d9_13)
    refine own_go st2 ?_
    show own_Gl p.tables e below F (T2.setTop (mkF m 16 #[.val (.int (1 : Int32))] [(.ref o1)]))
    obtain ⟨fs, hr, hrun, hended, hW, hsame⟩ := X2.leave (v := some (.ref o1)) (fun h => by rw [Bd.returns] at h; cases h)
    subst hF
    refine own_fin ?_ ⟨hrun, hended, _, _, rfl, ?_, ⟨_, rfl⟩, hW, hsame.mono (by first | decide | exact Nat.le_of_ble_eq_true rfl) (by first | decide | exact Nat.le_of_ble_eq_true rfl)⟩
    · exact own_retA X2 hx Bd.returns rfl rfl (hb hby d9_16) hr
    · show Q_rm9 Z _ _ _ _ _ h0 n0 _ T2.heap _
      rw [e2]
      exact ⟨rfl, N0, rfl⟩
  · show own_Gl p.tables e below F (s₁.setTop (mkF m 0 #[.val (.int (2 : Int32))] []))
    refine own_go (fun _ k => XS.iloadN X0.here hx rfl (hb hby d9_0) rfl k) ?_
    show own_Gl p.tables e below F (s₁.setTop (mkF m 1 #[.val (.int (2 : Int32))] [(.int (2 : Int32))]))
    refine own_go (fun _ k => XS.ifYes X0.here hx rfl (pc0 := 1) (pc' := 8) rfl (hb hby d9_1) rfl (XT.i0_ne_t (by decide)) (by decide) (by decide) k) ?_
    show own_Gl p.tables e below F (s₁.setTop (mkF m 8 #[.val (.int (2 : Int32))] []))
    refine own_go (fun _ k => XS.iloadN X0.here hx rfl (hb hby d9_8) rfl k) ?_
    show own_Gl p.tables e below F (s₁.setTop (mkF m 9 #[.val (.int (2 : Int32))] [(.int (2 : Int32))]))
    refine own_go (fun _ k => XS.iconst X0.here hx rfl (hb hby d9_9) k) ?_
    show own_Gl p.tables e below F (s₁.setTop (mkF m 10 #[.val (.int (2 : Int32))] [(.int (1 : Int32)), (.int (2 : Int32))]))
    refine own_go (fun _ k => XS.icmpYes X0.here hx rfl (pc0 := 10) (pc' := 17) rfl (hb hby d9_10) rfl (XT.ii_ne_t (by decide)) (by decide) (by decide) k) ?_
    show own_Gl p.tables e below F (s₁.setTop (mkF m 17 #[.val (.int (2 : Int32))] []))
    refine own_go (fun _ k => XS.iloadN X0.here hx rfl (hb hby d9_17) rfl k) ?_
    show own_Gl p.tables e below F (s₁.setTop (mkF m 18 #[.val (.int (2 : Int32))] [(.int (2 : Int32))]))
    refine own_go (fun _ k => XS.iconst X0.here hx rfl (hb hby d9_18) k) ?_
    show own_Gl p.tables e below F (s₁.setTop (mkF m 19 #[.val (.int (2 : Int32))] [(.int (2 : Int32)), (.int (2 : Int32))]))
    refine own_go (fun _ k => XS.icmpNo X0.here hx rfl (hb hby d9_19) rfl (XT.ii_ne_f rfl) k) ?_
    show own_Gl p.tables e below F (s₁.setTop (mkF m 22 #[.val (.int (2 : Int32))] []))
    obtain ⟨T3, X3, e3, st3⟩ := getS2 X0 hx hZ hown (host := "") (Or.inl (hw _ (List.mem_of_getElem? (i := 91) rfl))) Via.refl e0 U2 (g := (mkF m 22 #[.val (.int (2 : Int32))] [])) rfl (hb hby d9_22)
    refine own_go st3 ?_
    show own_Gl p.tables e below F (T3.setTop (mkF m 25 #[.val (.int (2 : Int32))] [(.ref o2)]))
    obtain ⟨fs, hr, hrun, hended, hW, hsame⟩ := X3.leave (v := some (.ref o2)) (fun h => by rw [Bd.returns] at h; cases h)
    subst hF
    refine own_fin ?_ ⟨hrun, hended, _, _, rfl, ?_, ⟨_, rfl⟩, hW, hsame.mono (by first | decide | exact Nat.le_of_ble_eq_true rfl) (by first | decide | exact Nat.le_of_ble_eq_true rfl)⟩
    · exact own_retA X3 hx Bd.returns rfl rfl (hb hby d9_25) hr
    · show Q_rm9 Z _ _ _ _ _ h0 n0 _ T3.heap _
      rw [e3]
      exact ⟨rfl, N0, rfl⟩
  · show own_Gl p.tables e below F (s₁.setTop (mkF m 0 #[.val (.int (3 : Int32))] []))
    refine own_go (fun _ k => XS.iloadN X0.here hx rfl (hb hby d9_0) rfl k) ?_
    show own_Gl p.tables e below F (s₁.setTop (mkF m 1 #[.val (.int (3 : Int32))] [(.int (3 : Int32))]))
    refine own_go (fun _ k => XS.ifYes X0.here hx rfl (pc0 := 1) (pc' := 8) rfl (hb hby d9_1) rfl (XT.i0_ne_t (by decide)) (by decide) (by decide) k) ?_
    show own_Gl p.tables e below F (s₁.setTop (mkF m 8 #[.val (.int (3 : Int32))] []))
    refine own_go (fun _ k => XS.iloadN X0.here hx rfl (hb hby d9_8) rfl k) ?_
    show own_Gl p.tables e below F (s₁.setTop (mkF m 9 #[.val (.int (3 : Int32))] [(.int (3 : Int32))]))
    refine own_go (fun _ k => XS.iconst X0.here hx rfl (hb hby d9_9) k) ?_
    show own_Gl p.tables e below F (s₁.setTop (mkF m 10 #[.val (.int (3 : Int32))] [(.int (1 : Int32)), (.int (3 : Int32))]))
    refine own_go (fun _ k => XS.icmpYes X0.here hx rfl (pc0 := 10) (pc' := 17) rfl (hb hby d9_10) rfl (XT.ii_ne_t (by decide)) (by decide) (by decide) k) ?_
    show own_Gl p.tables e below F (s₁.setTop (mkF m 17 #[.val (.int (3 : Int32))] []))
    refine own_go (fun _ k => XS.iloadN X0.here hx rfl (hb hby d9_17) rfl k) ?_
    show own_Gl p.tables e below F (s₁.setTop (mkF m 18 #[.val (.int (3 : Int32))] [(.int (3 : Int32))]))
    refine own_go (fun _ k => XS.iconst X0.here hx rfl (hb hby d9_18) k) ?_
    show own_Gl p.tables e below F (s₁.setTop (mkF m 19 #[.val (.int (3 : Int32))] [(.int (2 : Int32)), (.int (3 : Int32))]))
    refine own_go (fun _ k => XS.icmpYes X0.here hx rfl (pc0 := 19) (pc' := 26) rfl (hb hby d9_19) rfl (XT.ii_ne_t (by decide)) (by decide) (by decide) k) ?_
    show own_Gl p.tables e below F (s₁.setTop (mkF m 26 #[.val (.int (3 : Int32))] []))
    obtain ⟨T4, X4, e4, st4⟩ := getS2 X0 hx hZ hown (host := "") (Or.inl (hw _ (List.mem_of_getElem? (i := 95) rfl))) Via.refl e0 U3 (g := (mkF m 26 #[.val (.int (3 : Int32))] [])) rfl (hb hby d9_26)
    refine own_go st4 ?_
    show own_Gl p.tables e below F (T4.setTop (mkF m 29 #[.val (.int (3 : Int32))] [(.ref o3)]))
    obtain ⟨fs, hr, hrun, hended, hW, hsame⟩ := X4.leave (v := some (.ref o3)) (fun h => by rw [Bd.returns] at h; cases h)
    subst hF
    refine own_fin ?_ ⟨hrun, hended, _, _, rfl, ?_, ⟨_, rfl⟩, hW, hsame.mono (by first | decide | exact Nat.le_of_ble_eq_true rfl) (by first | decide | exact Nat.le_of_ble_eq_true rfl)⟩
    · exact own_retA X4 hx Bd.returns rfl rfl (hb hby d9_29) hr
    · show Q_rm9 Z _ _ _ _ _ h0 n0 _ T4.heap _
      rw [e4]
      exact ⟨rfl, N0, rfl⟩
theorem ef_rm11 (m : MethodId) (x0 : Addr) (x1 : Addr) : entryFrame m #[(.ref x0), (.ref x1)] 2 = mkF m 0 #[.val (.ref x0), .val (.ref x1)] [] := by first | (simp [entryFrame, mkF, argsToLocals, Value.category]; done) | rfl
theorem pn_2 : plainName "java/util/Objects" = true := by first | (simp [plainName, overriddenIn]; done) | decide +kernel
theorem d11_0 : decode jdk_31_method_11_code 0 = .ok (.aload_n 0, 1) := by decide +kernel
theorem d11_1 : decode jdk_31_method_11_code 1 = .ok (.ifnonnull 12, 3) := by decide +kernel
theorem d11_13 : decode jdk_31_method_11_code 13 = .ok (.aload_n 0, 1) := by decide +kernel
theorem d11_14 : decode jdk_31_method_11_code 14 = .ok (.areturn, 1) := by decide +kernel
def Q_rm11 (Z : State) (a b : Addr) (h0 : Heap) (n0 : Nat) (v : Option Value) (h : Heap) (L : List Loc) : Prop := v = some (.ref a) ∧ Fr n0 L ∧ h = h0
set_option maxRecDepth 65536 in
set_option maxHeartbeats 40000000 in
theorem rm11 (l : Launch) (Z : State) (a0 : Array Value) (hw : ∀ d ∈ tables_1, d.before a0 Z = true) (ws : List Jvm.Cond) (a b : Addr) (h0 : Heap) (n0 : Nat) (Z0 : n0 ≤ h0.size) :
    MetFree l (⟨"java/util/Objects", "requireNonNull", "(Ljava/lang/Object;Ljava/lang/String;)Ljava/lang/Object;"⟩ : MethodName) (head1 (Jvm.Cond.code (⟨"java/util/Objects", "requireNonNull", "(Ljava/lang/Object;Ljava/lang/String;)Ljava/lang/Object;"⟩ : MethodName) jdk_31_method_11_code 2 (some (.object "java/lang/Object")) :: ws) ({ frames := 0, cells := 0, slots := 0, locals := 0 } : Room)) (fun ag U => ag = #[(.ref a), (.ref b)] ∧ Z.Warmed39 U.vm ∧ U.heap = h0) (fun _ _ _ _ _ => True) (fun _ U o U' => ∃ v L, o = .returned v ∧ Q_rm11 Z a b h0 n0 v U'.heap L ∧ FrameEnd U o U' L ({ frames := 0, cells := 0, slots := 0, locals := 0 } : Room).cells ({ frames := 0, cells := 0, slots := 0, locals := 0 } : Room).slots) := by
  refine MetFree.of_bodySF (plainFor_of_name pn_2) hisR ?_
  intro p e s m args below meth c s₁ Bd hml0 hP hK
  obtain ⟨rfl, hZ, hh⟩ := hP
  have hx := Bd.exec
  have hby := Bd.bytes
  have hml : c.maxLocals = 2 := hml0
  have hown : s.vm.findClass "java/util/Objects" = some m.cls := findClass_of_methodNamed Bd.named
  have hnm := (name_of_methodNamed Bd.named Bd.method).1
  have X0 : Stand p l e ({ frames := 0, cells := 0, slots := 0, locals := 0 } : Room) s m #[(.ref a), (.ref b)] below meth c s₁ [] 0 0 := Stand.of_body Bd
  have e0 : s₁.heap = h0 := by rw [← hh, Bd.state]; rfl
  have N0 := Fr.nil n0
  refine own_start (ef_rm11 m a b) ?_
  intro F hF
  show own_Gl p.tables e below F (s₁.setTop (mkF m 0 #[.val (.ref a), .val (.ref b)] []))
  refine own_go (fun _ k => XS.aloadN X0.here hx rfl (hb hby d11_0) rfl rfl k) ?_
  show own_Gl p.tables e below F (s₁.setTop (mkF m 1 #[.val (.ref a), .val (.ref b)] [(.ref a)]))
  refine own_go (fun _ k => XS.ifnonnullYes X0.here hx rfl (pc0 := 1) (pc' := 13) rfl (hb hby d11_1) rfl (by decide) (by decide) k) ?_
  show own_Gl p.tables e below F (s₁.setTop (mkF m 13 #[.val (.ref a), .val (.ref b)] []))
  refine own_go (fun _ k => XS.aloadN X0.here hx rfl (hb hby d11_13) rfl rfl k) ?_
  show own_Gl p.tables e below F (s₁.setTop (mkF m 14 #[.val (.ref a), .val (.ref b)] [(.ref a)]))
  obtain ⟨fs, hr, hrun, hended, hW, hsame⟩ := X0.leave (v := some (.ref a)) (fun h => by rw [Bd.returns] at h; cases h)
  subst hF
  refine own_fin ?_ ⟨hrun, hended, _, _, rfl, ?_, ⟨_, rfl⟩, hW, hsame.mono (by first | decide | exact Nat.le_of_ble_eq_true rfl) (by first | decide | exact Nat.le_of_ble_eq_true rfl)⟩
  · exact own_retA X0 hx Bd.returns rfl rfl (hb hby d11_14) hr
  · show Q_rm11 Z _ _ h0 n0 _ s₁.heap _
    rw [e0]
    exact ⟨rfl, N0, rfl⟩
theorem ef_rm10 (m : MethodId) (x0 : Addr) (x1 : Addr) (x2 : Addr) (x3 : Addr) : entryFrame m #[(.ref x0), (.ref x1), (.ref x2), (.ref x3)] 4 = mkF m 0 #[.val (.ref x0), .val (.ref x1), .val (.ref x2), .val (.ref x3)] [] := by first | (simp [entryFrame, mkF, argsToLocals, Value.category]; done) | rfl
theorem pn_3 : plainName "com/example/cores_from_twigs/coresfromtwigs/constraints/Constraint" = true := by first | (simp [plainName, overriddenIn]; done) | decide +kernel
theorem d10_0 : decode prog_6_method_1_code 0 = .ok (.aload_n 0, 1) := by decide +kernel
theorem d10_1 : decode prog_6_method_1_code 1 = .ok (.invokespecial 1, 3) := by decide +kernel
theorem d10_4 : decode prog_6_method_1_code 4 = .ok (.aload_n 0, 1) := by decide +kernel
theorem d10_5 : decode prog_6_method_1_code 5 = .ok (.aload_n 1, 1) := by decide +kernel
theorem d10_6 : decode prog_6_method_1_code 6 = .ok (.ldc 7, 2) := by decide +kernel
theorem d10_8 : decode prog_6_method_1_code 8 = .ok (.invokestatic 9, 3) := by decide +kernel
theorem pd_3 : parseMethodDescriptor "(Ljava/lang/Object;Ljava/lang/String;)Ljava/lang/Object;" = some ⟨[(.object "java/lang/Object"), (.object "java/lang/String")], some (.object "java/lang/Object")⟩ := by decide +kernel
theorem d10_11 : decode prog_6_method_1_code 11 = .ok (.checkcast 15, 3) := by decide +kernel
theorem d10_14 : decode prog_6_method_1_code 14 = .ok (.putfield 17, 3) := by decide +kernel
theorem d10_17 : decode prog_6_method_1_code 17 = .ok (.aload_n 0, 1) := by decide +kernel
theorem d10_18 : decode prog_6_method_1_code 18 = .ok (.aload_n 2, 1) := by decide +kernel
theorem d10_19 : decode prog_6_method_1_code 19 = .ok (.ldc 22, 2) := by decide +kernel
theorem d10_21 : decode prog_6_method_1_code 21 = .ok (.invokestatic 9, 3) := by decide +kernel
theorem d10_24 : decode prog_6_method_1_code 24 = .ok (.checkcast 24, 3) := by decide +kernel
theorem d10_27 : decode prog_6_method_1_code 27 = .ok (.putfield 26, 3) := by decide +kernel
theorem d10_30 : decode prog_6_method_1_code 30 = .ok (.aload_n 0, 1) := by decide +kernel
theorem d10_31 : decode prog_6_method_1_code 31 = .ok (.aload_n 3, 1) := by decide +kernel
theorem d10_32 : decode prog_6_method_1_code 32 = .ok (.ldc 29, 2) := by decide +kernel
theorem d10_34 : decode prog_6_method_1_code 34 = .ok (.invokestatic 9, 3) := by decide +kernel
theorem d10_37 : decode prog_6_method_1_code 37 = .ok (.checkcast 15, 3) := by decide +kernel
theorem d10_40 : decode prog_6_method_1_code 40 = .ok (.putfield 31, 3) := by decide +kernel
theorem d10_43 : decode prog_6_method_1_code 43 = .ok (.return_, 1) := by decide +kernel
def Q_rm10 (Z : State) (a b1 b2 b3 : Addr) (h0 : Heap) (n0 : Nat) (v : Option Value) (h : Heap) (L : List Loc) : Prop := v = none ∧ Fr n0 L ∧ Keep h0 h [a] ∧ Exa Z h a "com/example/cores_from_twigs/coresfromtwigs/constraints/Constraint" ∧ Fld Z h a "com/example/cores_from_twigs/coresfromtwigs/constraints/Constraint" "subject" "Ljava/lang/String;" (.ref b1) ∧ Fld Z h a "com/example/cores_from_twigs/coresfromtwigs/constraints/Constraint" "relation" "Lcom/example/cores_from_twigs/coresfromtwigs/constraints/Relation;" (.ref b2) ∧ Fld Z h a "com/example/cores_from_twigs/coresfromtwigs/constraints/Constraint" "object" "Ljava/lang/String;" (.ref b3)
set_option maxRecDepth 65536 in
set_option maxHeartbeats 40000000 in
theorem rm10 (l : Launch) (Z : State) (a0 : Array Value) (hw : ∀ d ∈ tables_1, d.before a0 Z = true) (ws : List Jvm.Cond) (a b1 b2 b3 : Addr) (h0 : Heap) (n0 : Nat) (Z0 : n0 ≤ h0.size) (E_a : Exa Z h0 a "com/example/cores_from_twigs/coresfromtwigs/constraints/Constraint") (F_subject : Fld Z h0 a "com/example/cores_from_twigs/coresfromtwigs/constraints/Constraint" "subject" "Ljava/lang/String;" .null) (F_relation : Fld Z h0 a "com/example/cores_from_twigs/coresfromtwigs/constraints/Constraint" "relation" "Lcom/example/cores_from_twigs/coresfromtwigs/constraints/Relation;" .null) (F_object : Fld Z h0 a "com/example/cores_from_twigs/coresfromtwigs/constraints/Constraint" "object" "Ljava/lang/String;" .null) (g_a : n0 ≤ a) (EX1 : Exa Z h0 b1 "java/lang/String") (EX2 : Exa Z h0 b2 "com/example/cores_from_twigs/coresfromtwigs/constraints/Relation") (EX3 : Exa Z h0 b3 "java/lang/String") :
    MetFree l (⟨"com/example/cores_from_twigs/coresfromtwigs/constraints/Constraint", "<init>", "(Ljava/lang/String;Lcom/example/cores_from_twigs/coresfromtwigs/constraints/Relation;Ljava/lang/String;)V"⟩ : MethodName) (head1 (Jvm.Cond.code (⟨"com/example/cores_from_twigs/coresfromtwigs/constraints/Constraint", "<init>", "(Ljava/lang/String;Lcom/example/cores_from_twigs/coresfromtwigs/constraints/Relation;Ljava/lang/String;)V"⟩ : MethodName) prog_6_method_1_code 4 none :: ws) ({ frames := 1, cells := 6, slots := 96, locals := 14 } : Room)) (fun ag U => ag = #[(.ref a), (.ref b1), (.ref b2), (.ref b3)] ∧ Z.Warmed39 U.vm ∧ U.heap = h0 ∧ CHv Z own_EL U.vm h0) (fun _ _ _ _ _ => True) (fun _ U o U' => ∃ v L, o = .returned v ∧ Q_rm10 Z a b1 b2 b3 h0 n0 v U'.heap L ∧ CHr Z own_EL U.vm U.heap U'.vm U'.heap ∧ ReturnedEndW U o U' L ({ frames := 1, cells := 6, slots := 96, locals := 14 } : Room).cells ({ frames := 1, cells := 6, slots := 96, locals := 14 } : Room).slots) := by
  refine MetFree.of_bodySF (plainFor_of_name pn_3) hisR ?_
  intro p e s m args below meth c s₁ Bd hml0 hP hK
  obtain ⟨rfl, hZ, hh, hCH⟩ := hP
  have hx := Bd.exec
  have hby := Bd.bytes
  have hml : c.maxLocals = 4 := hml0
  have hown : s.vm.findClass "com/example/cores_from_twigs/coresfromtwigs/constraints/Constraint" = some m.cls := findClass_of_methodNamed Bd.named
  have hnm := (name_of_methodNamed Bd.named Bd.method).1
  have hZ0 : Z.Warmed39 (s.setVm s.vm).vm := hZ
  have hown0 : (s.setVm s.vm).vm.findClass "com/example/cores_from_twigs/coresfromtwigs/constraints/Constraint" = some m.cls := hown
  have hS0 : s.Since s.vm 0 := (State.WarmedH.refl s).since 0
  have hk0 : 0 ≤ h0.size := Nat.zero_le _
  have CR0 : CHr Z own_EL s.vm h0 s.vm h0 := CHr.refl hCH
  have hEL : EW Z a0 own_EL := own_hEL hw
  have wS := own_wS hw
  have X0 : Stand p l e ({ frames := 1, cells := 6, slots := 96, locals := 14 } : Room) (s.setVm s.vm) m #[(.ref a), (.ref b1), (.ref b2), (.ref b3)] below meth c s₁ [] 0 0 := Stand.of_body Bd
  have e0 : s₁.heap = h0 := by rw [← hh, Bd.state]; rfl
  have N0 := Fr.nil n0
  refine own_start (ef_rm10 m a b1 b2 b3) ?_
  intro F hF
  show own_Gl p.tables e below F (s₁.setTop (mkF m 0 #[.val (.ref a), .val (.ref b1), .val (.ref b2), .val (.ref b3)] []))
  refine own_go (fun _ k => XS.aloadN X0.here hx rfl (hb hby d10_0) rfl rfl k) ?_
  show own_Gl p.tables e below F (s₁.setTop (mkF m 1 #[.val (.ref a), .val (.ref b1), .val (.ref b2), .val (.ref b3)] [(.ref a)]))
  obtain ⟨T1, X1, e1, st1⟩ := initO X0 hx hZ0 hown0 (hw _ (List.mem_of_getElem? (i := 52) rfl)) (hw _ (List.mem_of_getElem? (i := 16) rfl)) (hw _ (List.mem_of_getElem? (i := 17) rfl)) e0 (g := (mkF m 1 #[.val (.ref a), .val (.ref b1), .val (.ref b2), .val (.ref b3)] [(.ref a)])) rfl (by rw [hml]; rfl) rfl (hb hby d10_1) (by decide) (W := 0) (by show 2 * 0 + _ ≤ _; exact Nat.le_of_eq rfl) (by decide)
  refine own_go st1 ?_
  show own_Gl p.tables e below F (T1.setTop (mkF m 4 #[.val (.ref a), .val (.ref b1), .val (.ref b2), .val (.ref b3)] []))
  refine own_go (fun _ k => XS.aloadN X1.here hx rfl (hb hby d10_4) rfl rfl k) ?_
  show own_Gl p.tables e below F (T1.setTop (mkF m 5 #[.val (.ref a), .val (.ref b1), .val (.ref b2), .val (.ref b3)] [(.ref a)]))
  refine own_go (fun _ k => XS.aloadN X1.here hx rfl (hb hby d10_5) rfl rfl k) ?_
  show own_Gl p.tables e below F (T1.setTop (mkF m 6 #[.val (.ref a), .val (.ref b1), .val (.ref b2), .val (.ref b3)] [(.ref b1), (.ref a)]))
  obtain ⟨la2, T2, h2, kk2, X2, e2, E2, hS2, hk2, hZ2, hown2, hC2, -, st2⟩ := ldcOH X1 hx hZ0 hown0 (hw _ (List.mem_of_getElem? (i := 53) rfl)) wS e1 hS0 hk0 hEL CR0.1 (g := (mkF m 6 #[.val (.ref a), .val (.ref b1), .val (.ref b2), .val (.ref b3)] [(.ref b1), (.ref a)])) rfl (hb hby d10_6) (n := 28) (by decide) (by decide) (by first | decide | exact Nat.le_of_ble_eq_true rfl) (by first | decide | exact Nat.le_of_ble_eq_true rfl)
  have CR2 := CR0.trans hC2
  have f2_0 := E_a.ext E2
  have f2_1 := F_subject.ext E2
  have f2_2 := F_relation.ext E2
  have f2_3 := F_object.ext E2
  have f2_4 := EX1.ext E2
  have f2_5 := EX2.ext E2
  have f2_6 := EX3.ext E2
  have Z2 : n0 ≤ h2.size := Nat.le_trans Z0 E2.1
  have K2 := Keep.ext (Keep.refl h0 [a]) E2
  have X2 : Stand _ _ _ _ _ _ _ _ _ _ _ _ 2 32 := X2
  refine own_go st2 ?_
  show own_Gl p.tables e below F (T2.setTop (mkF m 8 #[.val (.ref a), .val (.ref b1), .val (.ref b2), .val (.ref b3)] [(.ref la2), (.ref b1), (.ref a)]))
  obtain ⟨_, _, ⟨T3, L3, k3, n3⟩, -, X3, ⟨Lc3, hQ3, l3, y3, z3⟩, st3⟩ := Jvm.LawKit.callS X2 hx (y := (⟨"java/util/Objects", "requireNonNull", "(Ljava/lang/Object;Ljava/lang/String;)Ljava/lang/Object;"⟩ : MethodName)) hown2 (mvT hZ2 (hw _ (List.mem_of_getElem? (i := 54) rfl))) (mvT hZ2 (hw _ (List.mem_of_getElem? (i := 55) rfl))) (mvT hZ2 (hw _ (List.mem_of_getElem? (i := 56) rfl))) (mvT hZ2 (hw _ (List.mem_of_getElem? (i := 57) rfl))) (by decide) (backOf (W := 1) (rm11 l Z a0 hw [] b1 la2  h2 n0 Z2 ) hZ2 (hw _ (List.mem_of_getElem? (i := 57) rfl)) (hw _ (List.mem_of_getElem? (i := 56) rfl)) (by decide) (by decide)) (g := (mkF m 8 #[.val (.ref a), .val (.ref b1), .val (.ref b2), .val (.ref b3)] [(.ref la2), (.ref b1), (.ref a)])) rfl (by rw [hml]; rfl) (argsL := [(.ref b1), (.ref la2)]) (rest := [(.ref a)]) (lenOf pd_3 rfl) rfl (by show 2 * 0 + _ ≤ _; exact Nat.le_of_eq rfl) (hb hby d10_8) (fun _ _ => ⟨rfl, e2, (by first | decide | exact Nat.le_of_ble_eq_true rfl), (by first | decide | exact Nat.le_of_ble_eq_true rfl)⟩)
  dsimp only [Pt.U, Pt.locs, Pt.cells, Pt.slots] at X3 l3 y3 z3 st3 hQ3
  obtain ⟨rfl, N3, e3⟩ := hQ3
  have X3 := own_sn X3 (k' := 2) (n' := 32) y3 z3
  have NF3 := own_fr l3 N0 N3
  refine own_go st3 ?_
  show own_Gl p.tables e below F (T3.setTop (mkF m 11 #[.val (.ref a), .val (.ref b1), .val (.ref b2), .val (.ref b3)] [(.ref b1), (.ref a)]))
  obtain ⟨T4, X4, e4, st4⟩ := castY X3 hx hZ2 hown2 (hw _ (List.mem_of_getElem? (i := 58) rfl)) e3 (Ins.self f2_4) (g := (mkF m 11 #[.val (.ref a), .val (.ref b1), .val (.ref b2), .val (.ref b3)] [(.ref b1), (.ref a)])) rfl rfl (hb hby d10_11)
  refine own_go st4 ?_
  show own_Gl p.tables e below F (T4.setTop (mkF m 14 #[.val (.ref a), .val (.ref b1), .val (.ref b2), .val (.ref b3)] [(.ref b1), (.ref a)]))
  obtain ⟨T5, h5, X5, e5, W5, st5⟩ := putF X4 hx hZ2 hown2 (host := "") (Or.inl (hw _ (List.mem_of_getElem? (i := 59) rfl))) Via.refl e4 f2_1 f2_0 (Or.inr ⟨(hw _ (List.mem_of_getElem? (i := 60) rfl)), rfl, hnm⟩) (hw _ (List.mem_of_getElem? (i := 47) rfl)) (ty := (.object "java/lang/String")) (by decide) rfl rfl (g := (mkF m 14 #[.val (.ref a), .val (.ref b1), .val (.ref b2), .val (.ref b3)] [(.ref b1), (.ref a)])) rfl rfl (hb hby d10_14)
  have Fw5 := f2_1.same W5
  have f5_1 := f2_0.wr W5
  have f5_3 := f2_2.other W5 (Or.inr (slot_ne (Or.inr (hw _ (List.mem_of_getElem? (i := 65) rfl))) (Or.inr (hw _ (List.mem_of_getElem? (i := 60) rfl))) (by decide) (t := (.object "com/example/cores_from_twigs/coresfromtwigs/constraints/Relation")) (t' := (.object "java/lang/String")) (by decide) (by decide)))
  have f5_4 := f2_3.other W5 (Or.inr (slot_ne (Or.inr (hw _ (List.mem_of_getElem? (i := 68) rfl))) (Or.inr (hw _ (List.mem_of_getElem? (i := 60) rfl))) (by decide) (t := (.object "java/lang/String")) (t' := (.object "java/lang/String")) (by decide) (by decide)))
  have f5_5 := f2_4.wr W5
  have f5_6 := f2_5.wr W5
  have f5_7 := f2_6.wr W5
  have Z5 : n0 ≤ h5.size := by rw [W5.size]; exact Z2
  have K5 := Keep.wr K2 W5 (Or.inl (by simp))
  have CR5 := CR2.trans (CHr.wr W5 (Safe.exa hZ2.alike f2_0 (by decide) (by decide)) CR2.1)
  have hk5 : kk2 ≤ h5.size := by rw [W5.size]; exact hk2
  have N5 := Fr.snoc X5 NF3 g_a
  refine own_go st5 ?_
  show own_Gl p.tables e below F (T5.setTop (mkF m 17 #[.val (.ref a), .val (.ref b1), .val (.ref b2), .val (.ref b3)] []))
  refine own_go (fun _ k => XS.aloadN X5.here hx rfl (hb hby d10_17) rfl rfl k) ?_
  show own_Gl p.tables e below F (T5.setTop (mkF m 18 #[.val (.ref a), .val (.ref b1), .val (.ref b2), .val (.ref b3)] [(.ref a)]))
  refine own_go (fun _ k => XS.aloadN X5.here hx rfl (hb hby d10_18) rfl rfl k) ?_
  show own_Gl p.tables e below F (T5.setTop (mkF m 19 #[.val (.ref a), .val (.ref b1), .val (.ref b2), .val (.ref b3)] [(.ref b2), (.ref a)]))
  obtain ⟨la6, T6, h6, kk6, X6, e6, E6, hS6, hk6, hZ6, hown6, hC6, -, st6⟩ := ldcOH X5 hx hZ2 hown2 (hw _ (List.mem_of_getElem? (i := 61) rfl)) wS e5 hS2 hk5 hEL CR5.1 (g := (mkF m 19 #[.val (.ref a), .val (.ref b1), .val (.ref b2), .val (.ref b3)] [(.ref b2), (.ref a)])) rfl (hb hby d10_19) (n := 32) (by decide) (by decide) (by first | decide | exact Nat.le_of_ble_eq_true rfl) (by first | decide | exact Nat.le_of_ble_eq_true rfl)
  have CR6 := CR5.trans hC6
  have f6_0 := f5_1.ext E6
  have f6_1 := Fw5.ext E6
  have f6_2 := f5_3.ext E6
  have f6_3 := f5_4.ext E6
  have f6_4 := f5_5.ext E6
  have f6_5 := f5_6.ext E6
  have f6_6 := f5_7.ext E6
  have Z6 : n0 ≤ h6.size := Nat.le_trans Z5 E6.1
  have K6 := Keep.ext K5 E6
  have X6 : Stand _ _ _ _ _ _ _ _ _ _ _ _ 4 68 := X6
  refine own_go st6 ?_
  show own_Gl p.tables e below F (T6.setTop (mkF m 21 #[.val (.ref a), .val (.ref b1), .val (.ref b2), .val (.ref b3)] [(.ref la6), (.ref b2), (.ref a)]))
  obtain ⟨_, _, ⟨T7, L7, k7, n7⟩, -, X7, ⟨Lc7, hQ7, l7, y7, z7⟩, st7⟩ := Jvm.LawKit.callS X6 hx (y := (⟨"java/util/Objects", "requireNonNull", "(Ljava/lang/Object;Ljava/lang/String;)Ljava/lang/Object;"⟩ : MethodName)) hown6 (mvT hZ6 (hw _ (List.mem_of_getElem? (i := 54) rfl))) (mvT hZ6 (hw _ (List.mem_of_getElem? (i := 55) rfl))) (mvT hZ6 (hw _ (List.mem_of_getElem? (i := 56) rfl))) (mvT hZ6 (hw _ (List.mem_of_getElem? (i := 57) rfl))) (by decide) (backOf (W := 1) (rm11 l Z a0 hw [] b2 la6  h6 n0 Z6 ) hZ6 (hw _ (List.mem_of_getElem? (i := 57) rfl)) (hw _ (List.mem_of_getElem? (i := 56) rfl)) (by decide) (by decide)) (g := (mkF m 21 #[.val (.ref a), .val (.ref b1), .val (.ref b2), .val (.ref b3)] [(.ref la6), (.ref b2), (.ref a)])) rfl (by rw [hml]; rfl) (argsL := [(.ref b2), (.ref la6)]) (rest := [(.ref a)]) (lenOf pd_3 rfl) rfl (by show 2 * 0 + _ ≤ _; exact Nat.le_of_eq rfl) (hb hby d10_21) (fun _ _ => ⟨rfl, e6, (by first | decide | exact Nat.le_of_ble_eq_true rfl), (by first | decide | exact Nat.le_of_ble_eq_true rfl)⟩)
  dsimp only [Pt.U, Pt.locs, Pt.cells, Pt.slots] at X7 l7 y7 z7 st7 hQ7
  obtain ⟨rfl, N7, e7⟩ := hQ7
  have X7 := own_sn X7 (k' := 4) (n' := 68) y7 z7
  have NF7 := own_fr l7 N5 N7
  refine own_go st7 ?_
  show own_Gl p.tables e below F (T7.setTop (mkF m 24 #[.val (.ref a), .val (.ref b1), .val (.ref b2), .val (.ref b3)] [(.ref b2), (.ref a)]))
  obtain ⟨T8, X8, e8, st8⟩ := castY X7 hx hZ6 hown6 (hw _ (List.mem_of_getElem? (i := 62) rfl)) e7 (Ins.self f6_5) (g := (mkF m 24 #[.val (.ref a), .val (.ref b1), .val (.ref b2), .val (.ref b3)] [(.ref b2), (.ref a)])) rfl rfl (hb hby d10_24)
  refine own_go st8 ?_
  show own_Gl p.tables e below F (T8.setTop (mkF m 27 #[.val (.ref a), .val (.ref b1), .val (.ref b2), .val (.ref b3)] [(.ref b2), (.ref a)]))
  obtain ⟨T9, h9, X9, e9, W9, st9⟩ := putF X8 hx hZ6 hown6 (host := "") (Or.inl (hw _ (List.mem_of_getElem? (i := 64) rfl))) Via.refl e8 f6_2 f6_0 (Or.inr ⟨(hw _ (List.mem_of_getElem? (i := 65) rfl)), rfl, hnm⟩) (hw _ (List.mem_of_getElem? (i := 47) rfl)) (ty := (.object "com/example/cores_from_twigs/coresfromtwigs/constraints/Relation")) (by decide) rfl rfl (g := (mkF m 27 #[.val (.ref a), .val (.ref b1), .val (.ref b2), .val (.ref b3)] [(.ref b2), (.ref a)])) rfl rfl (hb hby d10_27)
  have Fw9 := f6_2.same W9
  have f9_1 := f6_0.wr W9
  have f9_2 := f6_1.other W9 (Or.inr (slot_ne (Or.inr (hw _ (List.mem_of_getElem? (i := 60) rfl))) (Or.inr (hw _ (List.mem_of_getElem? (i := 65) rfl))) (by decide) (t := (.object "java/lang/String")) (t' := (.object "com/example/cores_from_twigs/coresfromtwigs/constraints/Relation")) (by decide) (by decide)))
  have f9_4 := f6_3.other W9 (Or.inr (slot_ne (Or.inr (hw _ (List.mem_of_getElem? (i := 68) rfl))) (Or.inr (hw _ (List.mem_of_getElem? (i := 65) rfl))) (by decide) (t := (.object "java/lang/String")) (t' := (.object "com/example/cores_from_twigs/coresfromtwigs/constraints/Relation")) (by decide) (by decide)))
  have f9_5 := f6_4.wr W9
  have f9_6 := f6_5.wr W9
  have f9_7 := f6_6.wr W9
  have Z9 : n0 ≤ h9.size := by rw [W9.size]; exact Z6
  have K9 := Keep.wr K6 W9 (Or.inl (by simp))
  have CR9 := CR6.trans (CHr.wr W9 (Safe.exa hZ6.alike f6_0 (by decide) (by decide)) CR6.1)
  have hk9 : kk6 ≤ h9.size := by rw [W9.size]; exact hk6
  have N9 := Fr.snoc X9 NF7 g_a
  refine own_go st9 ?_
  show own_Gl p.tables e below F (T9.setTop (mkF m 30 #[.val (.ref a), .val (.ref b1), .val (.ref b2), .val (.ref b3)] []))
  refine own_go (fun _ k => XS.aloadN X9.here hx rfl (hb hby d10_30) rfl rfl k) ?_
  show own_Gl p.tables e below F (T9.setTop (mkF m 31 #[.val (.ref a), .val (.ref b1), .val (.ref b2), .val (.ref b3)] [(.ref a)]))
  refine own_go (fun _ k => XS.aloadN X9.here hx rfl (hb hby d10_31) rfl rfl k) ?_
  show own_Gl p.tables e below F (T9.setTop (mkF m 32 #[.val (.ref a), .val (.ref b1), .val (.ref b2), .val (.ref b3)] [(.ref b3), (.ref a)]))
  obtain ⟨la10, T10, h10, kk10, X10, e10, E10, hS10, hk10, hZ10, hown10, hC10, -, st10⟩ := ldcOH X9 hx hZ6 hown6 (hw _ (List.mem_of_getElem? (i := 66) rfl)) wS e9 hS6 hk9 hEL CR9.1 (g := (mkF m 32 #[.val (.ref a), .val (.ref b1), .val (.ref b2), .val (.ref b3)] [(.ref b3), (.ref a)])) rfl (hb hby d10_32) (n := 24) (by decide) (by decide) (by first | decide | exact Nat.le_of_ble_eq_true rfl) (by first | decide | exact Nat.le_of_ble_eq_true rfl)
  have CR10 := CR9.trans hC10
  have f10_0 := f9_1.ext E10
  have f10_1 := f9_2.ext E10
  have f10_2 := Fw9.ext E10
  have f10_3 := f9_4.ext E10
  have f10_4 := f9_5.ext E10
  have f10_5 := f9_6.ext E10
  have f10_6 := f9_7.ext E10
  have Z10 : n0 ≤ h10.size := Nat.le_trans Z9 E10.1
  have K10 := Keep.ext K9 E10
  have X10 : Stand _ _ _ _ _ _ _ _ _ _ _ _ 6 96 := X10
  refine own_go st10 ?_
  show own_Gl p.tables e below F (T10.setTop (mkF m 34 #[.val (.ref a), .val (.ref b1), .val (.ref b2), .val (.ref b3)] [(.ref la10), (.ref b3), (.ref a)]))
  obtain ⟨_, _, ⟨T11, L11, k11, n11⟩, -, X11, ⟨Lc11, hQ11, l11, y11, z11⟩, st11⟩ := Jvm.LawKit.callS X10 hx (y := (⟨"java/util/Objects", "requireNonNull", "(Ljava/lang/Object;Ljava/lang/String;)Ljava/lang/Object;"⟩ : MethodName)) hown10 (mvT hZ10 (hw _ (List.mem_of_getElem? (i := 54) rfl))) (mvT hZ10 (hw _ (List.mem_of_getElem? (i := 55) rfl))) (mvT hZ10 (hw _ (List.mem_of_getElem? (i := 56) rfl))) (mvT hZ10 (hw _ (List.mem_of_getElem? (i := 57) rfl))) (by decide) (backOf (W := 1) (rm11 l Z a0 hw [] b3 la10  h10 n0 Z10 ) hZ10 (hw _ (List.mem_of_getElem? (i := 57) rfl)) (hw _ (List.mem_of_getElem? (i := 56) rfl)) (by decide) (by decide)) (g := (mkF m 34 #[.val (.ref a), .val (.ref b1), .val (.ref b2), .val (.ref b3)] [(.ref la10), (.ref b3), (.ref a)])) rfl (by rw [hml]; rfl) (argsL := [(.ref b3), (.ref la10)]) (rest := [(.ref a)]) (lenOf pd_3 rfl) rfl (by show 2 * 0 + _ ≤ _; exact Nat.le_of_eq rfl) (hb hby d10_34) (fun _ _ => ⟨rfl, e10, (by first | decide | exact Nat.le_of_ble_eq_true rfl), (by first | decide | exact Nat.le_of_ble_eq_true rfl)⟩)
  dsimp only [Pt.U, Pt.locs, Pt.cells, Pt.slots] at X11 l11 y11 z11 st11 hQ11
  obtain ⟨rfl, N11, e11⟩ := hQ11
  have X11 := own_sn X11 (k' := 6) (n' := 96) y11 z11
  have NF11 := own_fr l11 N9 N11
  refine own_go st11 ?_
  show own_Gl p.tables e below F (T11.setTop (mkF m 37 #[.val (.ref a), .val (.ref b1), .val (.ref b2), .val (.ref b3)] [(.ref b3), (.ref a)]))
  obtain ⟨T12, X12, e12, st12⟩ := castY X11 hx hZ10 hown10 (hw _ (List.mem_of_getElem? (i := 58) rfl)) e11 (Ins.self f10_6) (g := (mkF m 37 #[.val (.ref a), .val (.ref b1), .val (.ref b2), .val (.ref b3)] [(.ref b3), (.ref a)])) rfl rfl (hb hby d10_37)
  refine own_go st12 ?_
  show own_Gl p.tables e below F (T12.setTop (mkF m 40 #[.val (.ref a), .val (.ref b1), .val (.ref b2), .val (.ref b3)] [(.ref b3), (.ref a)]))
  obtain ⟨T13, h13, X13, e13, W13, st13⟩ := putF X12 hx hZ10 hown10 (host := "") (Or.inl (hw _ (List.mem_of_getElem? (i := 67) rfl))) Via.refl e12 f10_3 f10_0 (Or.inr ⟨(hw _ (List.mem_of_getElem? (i := 68) rfl)), rfl, hnm⟩) (hw _ (List.mem_of_getElem? (i := 47) rfl)) (ty := (.object "java/lang/String")) (by decide) rfl rfl (g := (mkF m 40 #[.val (.ref a), .val (.ref b1), .val (.ref b2), .val (.ref b3)] [(.ref b3), (.ref a)])) rfl rfl (hb hby d10_40)
  have Fw13 := f10_3.same W13
  have f13_1 := f10_0.wr W13
  have f13_2 := f10_1.other W13 (Or.inr (slot_ne (Or.inr (hw _ (List.mem_of_getElem? (i := 60) rfl))) (Or.inr (hw _ (List.mem_of_getElem? (i := 68) rfl))) (by decide) (t := (.object "java/lang/String")) (t' := (.object "java/lang/String")) (by decide) (by decide)))
  have f13_3 := f10_2.other W13 (Or.inr (slot_ne (Or.inr (hw _ (List.mem_of_getElem? (i := 65) rfl))) (Or.inr (hw _ (List.mem_of_getElem? (i := 68) rfl))) (by decide) (t := (.object "com/example/cores_from_twigs/coresfromtwigs/constraints/Relation")) (t' := (.object "java/lang/String")) (by decide) (by decide)))
  have f13_5 := f10_4.wr W13
  have f13_6 := f10_5.wr W13
  have f13_7 := f10_6.wr W13
  have Z13 : n0 ≤ h13.size := by rw [W13.size]; exact Z10
  have K13 := Keep.wr K10 W13 (Or.inl (by simp))
  have CR13 := CR10.trans (CHr.wr W13 (Safe.exa hZ10.alike f10_0 (by decide) (by decide)) CR10.1)
  have hk13 : kk10 ≤ h13.size := by rw [W13.size]; exact hk10
  have N13 := Fr.snoc X13 NF11 g_a
  refine own_go st13 ?_
  show own_Gl p.tables e below F (T13.setTop (mkF m 43 #[.val (.ref a), .val (.ref b1), .val (.ref b2), .val (.ref b3)] []))
  obtain ⟨fs, hr, hrun, hended, hRW⟩ := Jvm.Stand.leaveW X13 hS10 (by rw [e13]; exact hk13) (v := none) (fun _ => rfl)
  have CE : CHr Z own_EL s.vm s.heap T13.vm T13.heap := by rw [hh, e13]; exact CR13.trans (CHv.at X13 hZ10 hEL CR13.1)
  subst hF
  refine own_fin ?_ ⟨hrun, hended, _, _, rfl, ?_, CE, hRW.1, hRW.2.1, hRW.2.2.1, hRW.2.2.2.mono (by first | decide | exact Nat.le_of_ble_eq_true rfl) (by first | decide | exact Nat.le_of_ble_eq_true rfl)⟩
  · exact X13.returnOut hx Bd.returns (hb hby d10_43) hr
  · show Q_rm10 Z _ _ _ _ h0 n0 _ T13.heap _
    rw [e13]
    exact ⟨rfl, N13, K13, f13_1, f13_2, f13_3, Fw13⟩
theorem ef_rm12 (m : MethodId) (x0 : Int32) (x1 : Int32) : entryFrame m #[(.int x0), (.int x1)] 3 = mkF m 0 #[.val (.int x0), .val (.int x1), .unset] [] := by first | (simp [entryFrame, mkF, argsToLocals, Value.category]; done) | rfl
theorem d12_0 : decode method_5_code 0 = .ok (.iload_n 0, 1) := by decide +kernel
theorem d12_1 : decode method_5_code 1 = .ok (.iconst 3, 1) := by decide +kernel
theorem d12_2 : decode method_5_code 2 = .ok (.iand, 1) := by decide +kernel
theorem d12_3 : decode method_5_code 3 = .ok (.istore_n 2, 1) := by decide +kernel
theorem d12_4 : decode method_5_code 4 = .ok (.iload_n 2, 1) := by decide +kernel
theorem d12_5 : decode method_5_code 5 = .ok (.iload_n 1, 1) := by decide +kernel
theorem d12_6 : decode method_5_code 6 = .ok (.iconst 3, 1) := by decide +kernel
theorem d12_7 : decode method_5_code 7 = .ok (.iand, 1) := by decide +kernel
theorem d12_8 : decode method_5_code 8 = .ok (.if_icmp .eq 5, 3) := by decide +kernel
theorem d12_13 : decode method_5_code 13 = .ok (.iload_n 2, 1) := by decide +kernel
theorem d12_14 : decode method_5_code 14 = .ok (.iconst 1, 1) := by decide +kernel
theorem d12_15 : decode method_5_code 15 = .ok (.if_icmp .lt 18, 3) := by decide +kernel
theorem d12_33 : decode method_5_code 33 = .ok (.iload_n 2, 1) := by decide +kernel
theorem d12_34 : decode method_5_code 34 = .ok (.iconst 2, 1) := by decide +kernel
theorem d12_35 : decode method_5_code 35 = .ok (.if_icmp .lt 18, 3) := by decide +kernel
theorem d12_53 : decode method_5_code 53 = .ok (.iload_n 2, 1) := by decide +kernel
theorem d12_54 : decode method_5_code 54 = .ok (.iconst 3, 1) := by decide +kernel
theorem d12_55 : decode method_5_code 55 = .ok (.if_icmp .lt 18, 3) := by decide +kernel
theorem d12_73 : decode method_5_code 73 = .ok (.iconst 1, 1) := by decide +kernel
theorem d12_74 : decode method_5_code 74 = .ok (.ireturn, 1) := by decide +kernel
theorem d12_18 : decode method_5_code 18 = .ok (.iload_n 0, 1) := by decide +kernel
theorem d12_19 : decode method_5_code 19 = .ok (.iconst 0, 1) := by decide +kernel
theorem d12_20 : decode method_5_code 20 = .ok (.invokestatic 35, 3) := by decide +kernel
theorem d12_23 : decode method_5_code 23 = .ok (.iload_n 1, 1) := by decide +kernel
theorem d12_24 : decode method_5_code 24 = .ok (.iconst 0, 1) := by decide +kernel
theorem d12_25 : decode method_5_code 25 = .ok (.invokestatic 35, 3) := by decide +kernel
theorem d12_28 : decode method_5_code 28 = .ok (.if_icmp .eq 5, 3) := by decide +kernel
theorem d12_31 : decode method_5_code 31 = .ok (.iconst 0, 1) := by decide +kernel
theorem d12_32 : decode method_5_code 32 = .ok (.ireturn, 1) := by decide +kernel
theorem d12_38 : decode method_5_code 38 = .ok (.iload_n 0, 1) := by decide +kernel
theorem d12_39 : decode method_5_code 39 = .ok (.iconst 1, 1) := by decide +kernel
theorem d12_40 : decode method_5_code 40 = .ok (.invokestatic 35, 3) := by decide +kernel
theorem d12_43 : decode method_5_code 43 = .ok (.iload_n 1, 1) := by decide +kernel
theorem d12_44 : decode method_5_code 44 = .ok (.iconst 1, 1) := by decide +kernel
theorem d12_45 : decode method_5_code 45 = .ok (.invokestatic 35, 3) := by decide +kernel
theorem d12_48 : decode method_5_code 48 = .ok (.if_icmp .eq 5, 3) := by decide +kernel
theorem d12_51 : decode method_5_code 51 = .ok (.iconst 0, 1) := by decide +kernel
theorem d12_52 : decode method_5_code 52 = .ok (.ireturn, 1) := by decide +kernel
theorem d12_58 : decode method_5_code 58 = .ok (.iload_n 0, 1) := by decide +kernel
theorem d12_59 : decode method_5_code 59 = .ok (.iconst 2, 1) := by decide +kernel
theorem d12_60 : decode method_5_code 60 = .ok (.invokestatic 35, 3) := by decide +kernel
theorem d12_63 : decode method_5_code 63 = .ok (.iload_n 1, 1) := by decide +kernel
theorem d12_64 : decode method_5_code 64 = .ok (.iconst 2, 1) := by decide +kernel
theorem d12_65 : decode method_5_code 65 = .ok (.invokestatic 35, 3) := by decide +kernel
theorem d12_68 : decode method_5_code 68 = .ok (.if_icmp .eq 5, 3) := by decide +kernel
theorem d12_71 : decode method_5_code 71 = .ok (.iconst 0, 1) := by decide +kernel
theorem d12_72 : decode method_5_code 72 = .ok (.ireturn, 1) := by decide +kernel
theorem d12_11 : decode method_5_code 11 = .ok (.iconst 0, 1) := by decide +kernel
theorem d12_12 : decode method_5_code 12 = .ok (.ireturn, 1) := by decide +kernel
def Q_rm12 (Z : State) (p1 p2 : Int32) (h0 : Heap) (n0 : Nat) (v : Option Value) (h : Heap) (L : List Loc) : Prop := v = some (.int (own_same p1 p2)) ∧ Fr n0 L ∧ h = h0
set_option maxRecDepth 65536 in
set_option maxHeartbeats 40000000 in
theorem rm12 (l : Launch) (Z : State) (a0 : Array Value) (hw : ∀ d ∈ tables_1, d.before a0 Z = true) (ws : List Jvm.Cond) (p1 p2 : Int32) (h0 : Heap) (n0 : Nat) (Z0 : n0 ≤ h0.size) :
    MetFree l (⟨"com/example/cores_from_twigs/coresfromtwigs/constraints/ConstraintEqualsPinLaw", "same", "(II)Z"⟩ : MethodName) (head1 (Jvm.Cond.code (⟨"com/example/cores_from_twigs/coresfromtwigs/constraints/ConstraintEqualsPinLaw", "same", "(II)Z"⟩ : MethodName) method_5_code 3 (some .boolean) :: ws) ({ frames := 1, cells := 0, slots := 0, locals := 14 } : Room)) (fun ag U => ag = #[(.int p1), (.int p2)] ∧ Z.Warmed39 U.vm ∧ U.heap = h0) (fun _ _ _ _ _ => True) (fun _ U o U' => ∃ v L, o = .returned v ∧ Q_rm12 Z p1 p2 h0 n0 v U'.heap L ∧ FrameEnd U o U' L ({ frames := 1, cells := 0, slots := 0, locals := 14 } : Room).cells ({ frames := 1, cells := 0, slots := 0, locals := 14 } : Room).slots) := by
  refine MetFree.of_bodySF (plainFor_of_name pn_1) hisR ?_
  intro p e s m args below meth c s₁ Bd hml0 hP hK
  obtain ⟨rfl, hZ, hh⟩ := hP
  have hx := Bd.exec
  have hby := Bd.bytes
  have hml : c.maxLocals = 3 := hml0
  have hown : s.vm.findClass "com/example/cores_from_twigs/coresfromtwigs/constraints/ConstraintEqualsPinLaw" = some m.cls := findClass_of_methodNamed Bd.named
  have hnm := (name_of_methodNamed Bd.named Bd.method).1
  have X0 : Stand p l e ({ frames := 1, cells := 0, slots := 0, locals := 14 } : Room) s m #[(.int p1), (.int p2)] below meth c s₁ [] 0 0 := Stand.of_body Bd
  have e0 : s₁.heap = h0 := by rw [← hh, Bd.state]; rfl
  have N0 := Fr.nil n0
  refine own_start (ef_rm12 m p1 p2) ?_
  intro F hF
  show own_Gl p.tables e below F (s₁.setTop (mkF m 0 #[.val (.int p1), .val (.int p2), .unset] []))
  refine own_go (fun _ k => XS.iloadN X0.here hx rfl (hb hby d12_0) rfl k) ?_
  show own_Gl p.tables e below F (s₁.setTop (mkF m 1 #[.val (.int p1), .val (.int p2), .unset] [(.int p1)]))
  refine own_go (fun _ k => XS.iconst X0.here hx rfl (hb hby d12_1) k) ?_
  show own_Gl p.tables e below F (s₁.setTop (mkF m 2 #[.val (.int p1), .val (.int p2), .unset] [(.int (3 : Int32)), (.int p1)]))
  refine own_go (fun _ k => XS.iand X0.here hx rfl (hb hby d12_2) rfl k) ?_
  show own_Gl p.tables e below F (s₁.setTop (mkF m 3 #[.val (.int p1), .val (.int p2), .unset] [(.int (p1 &&& (3 : Int32)))]))
  refine own_go (fun _ k => XS.istoreN X0.here hx rfl (hb hby d12_3) rfl (l' := #[.val (.int p1), .val (.int p2), .val (.int (p1 &&& (3 : Int32)))]) rfl k) ?_
  show own_Gl p.tables e below F (s₁.setTop (mkF m 4 #[.val (.int p1), .val (.int p2), .val (.int (p1 &&& (3 : Int32)))] []))
  refine own_go (fun _ k => XS.iloadN X0.here hx rfl (hb hby d12_4) rfl k) ?_
  show own_Gl p.tables e below F (s₁.setTop (mkF m 5 #[.val (.int p1), .val (.int p2), .val (.int (p1 &&& (3 : Int32)))] [(.int (p1 &&& (3 : Int32)))]))
  refine own_go (fun _ k => XS.iloadN X0.here hx rfl (hb hby d12_5) rfl k) ?_
  show own_Gl p.tables e below F (s₁.setTop (mkF m 6 #[.val (.int p1), .val (.int p2), .val (.int (p1 &&& (3 : Int32)))] [(.int p2), (.int (p1 &&& (3 : Int32)))]))
  refine own_go (fun _ k => XS.iconst X0.here hx rfl (hb hby d12_6) k) ?_
  show own_Gl p.tables e below F (s₁.setTop (mkF m 7 #[.val (.int p1), .val (.int p2), .val (.int (p1 &&& (3 : Int32)))] [(.int (3 : Int32)), (.int p2), (.int (p1 &&& (3 : Int32)))]))
  refine own_go (fun _ k => XS.iand X0.here hx rfl (hb hby d12_7) rfl k) ?_
  show own_Gl p.tables e below F (s₁.setTop (mkF m 8 #[.val (.int p1), .val (.int p2), .val (.int (p1 &&& (3 : Int32)))] [(.int (p2 &&& (3 : Int32))), (.int (p1 &&& (3 : Int32)))]))
  by_cases hq : p1 &&& (3 : Int32) = p2 &&& (3 : Int32)
  · refine own_go (fun _ k => XS.icmpYes X0.here hx rfl (pc0 := 8) (pc' := 13) rfl (hb hby d12_8) rfl (XT.ii_eq_t hq) (by decide) (by decide) k) ?_
    show own_Gl p.tables e below F (s₁.setTop (mkF m 13 #[.val (.int p1), .val (.int p2), .val (.int (p1 &&& (3 : Int32)))] []))
    rcases own_m p1 with hm | hm | hm | hm
    · have hm2 : p2 &&& 3 = 0 := hq.symm.trans hm
      rw [hm]
      show own_Gl p.tables e below F (s₁.setTop (mkF m 13 #[.val (.int p1), .val (.int p2), .val (.int (0 : Int32))] []))
      refine own_go (fun _ k => XS.iloadN X0.here hx rfl (hb hby d12_13) rfl k) ?_
      show own_Gl p.tables e below F (s₁.setTop (mkF m 14 #[.val (.int p1), .val (.int p2), .val (.int (0 : Int32))] [(.int (0 : Int32))]))
      refine own_go (fun _ k => XS.iconst X0.here hx rfl (hb hby d12_14) k) ?_
      show own_Gl p.tables e below F (s₁.setTop (mkF m 15 #[.val (.int p1), .val (.int p2), .val (.int (0 : Int32))] [(.int (1 : Int32)), (.int (0 : Int32))]))
      refine own_go (fun _ k => XS.icmpYes X0.here hx rfl (pc0 := 15) (pc' := 33) rfl (hb hby d12_15) rfl (XT.ii_lt_t (by decide)) (by decide) (by decide) k) ?_
      show own_Gl p.tables e below F (s₁.setTop (mkF m 33 #[.val (.int p1), .val (.int p2), .val (.int (0 : Int32))] []))
      refine own_go (fun _ k => XS.iloadN X0.here hx rfl (hb hby d12_33) rfl k) ?_
      show own_Gl p.tables e below F (s₁.setTop (mkF m 34 #[.val (.int p1), .val (.int p2), .val (.int (0 : Int32))] [(.int (0 : Int32))]))
      refine own_go (fun _ k => XS.iconst X0.here hx rfl (hb hby d12_34) k) ?_
      show own_Gl p.tables e below F (s₁.setTop (mkF m 35 #[.val (.int p1), .val (.int p2), .val (.int (0 : Int32))] [(.int (2 : Int32)), (.int (0 : Int32))]))
      refine own_go (fun _ k => XS.icmpYes X0.here hx rfl (pc0 := 35) (pc' := 53) rfl (hb hby d12_35) rfl (XT.ii_lt_t (by decide)) (by decide) (by decide) k) ?_
      show own_Gl p.tables e below F (s₁.setTop (mkF m 53 #[.val (.int p1), .val (.int p2), .val (.int (0 : Int32))] []))
      refine own_go (fun _ k => XS.iloadN X0.here hx rfl (hb hby d12_53) rfl k) ?_
      show own_Gl p.tables e below F (s₁.setTop (mkF m 54 #[.val (.int p1), .val (.int p2), .val (.int (0 : Int32))] [(.int (0 : Int32))]))
      refine own_go (fun _ k => XS.iconst X0.here hx rfl (hb hby d12_54) k) ?_
      show own_Gl p.tables e below F (s₁.setTop (mkF m 55 #[.val (.int p1), .val (.int p2), .val (.int (0 : Int32))] [(.int (3 : Int32)), (.int (0 : Int32))]))
      refine own_go (fun _ k => XS.icmpYes X0.here hx rfl (pc0 := 55) (pc' := 73) rfl (hb hby d12_55) rfl (XT.ii_lt_t (by decide)) (by decide) (by decide) k) ?_
      show own_Gl p.tables e below F (s₁.setTop (mkF m 73 #[.val (.int p1), .val (.int p2), .val (.int (0 : Int32))] []))
      refine own_go (fun _ k => XS.iconst X0.here hx rfl (hb hby d12_73) k) ?_
      show own_Gl p.tables e below F (s₁.setTop (mkF m 74 #[.val (.int p1), .val (.int p2), .val (.int (0 : Int32))] [(.int (1 : Int32))]))
      obtain ⟨fs, hr, hrun, hended, hW, hsame⟩ := X0.leave (v := some (.int (1 : Int32))) (fun h => by rw [Bd.returns] at h; cases h)
      subst hF
      refine own_fin ?_ ⟨hrun, hended, _, _, rfl, ?_, ⟨_, rfl⟩, hW, hsame.mono (by first | decide | exact Nat.le_of_ble_eq_true rfl) (by first | decide | exact Nat.le_of_ble_eq_true rfl)⟩
      · exact own_retN X0 hx (t := .boolean) Bd.returns (by simp) rfl (hb hby d12_74) hr
      · show Q_rm12 Z _ _ h0 n0 _ s₁.heap _
        rw [e0]
        exact ⟨by rw [own_same, own_cs0 hm, own_cs0 hm2, if_pos (by rfl)], N0, rfl⟩
    · have hm2 : p2 &&& 3 = 1 := hq.symm.trans hm
      rw [hm]
      show own_Gl p.tables e below F (s₁.setTop (mkF m 13 #[.val (.int p1), .val (.int p2), .val (.int (1 : Int32))] []))
      refine own_go (fun _ k => XS.iloadN X0.here hx rfl (hb hby d12_13) rfl k) ?_
      show own_Gl p.tables e below F (s₁.setTop (mkF m 14 #[.val (.int p1), .val (.int p2), .val (.int (1 : Int32))] [(.int (1 : Int32))]))
      refine own_go (fun _ k => XS.iconst X0.here hx rfl (hb hby d12_14) k) ?_
      show own_Gl p.tables e below F (s₁.setTop (mkF m 15 #[.val (.int p1), .val (.int p2), .val (.int (1 : Int32))] [(.int (1 : Int32)), (.int (1 : Int32))]))
      refine own_go (fun _ k => XS.icmpNo X0.here hx rfl (hb hby d12_15) rfl (XT.ii_lt_f (by decide)) k) ?_
      show own_Gl p.tables e below F (s₁.setTop (mkF m 18 #[.val (.int p1), .val (.int p2), .val (.int (1 : Int32))] []))
      refine own_go (fun _ k => XS.iloadN X0.here hx rfl (hb hby d12_18) rfl k) ?_
      show own_Gl p.tables e below F (s₁.setTop (mkF m 19 #[.val (.int p1), .val (.int p2), .val (.int (1 : Int32))] [(.int p1)]))
      refine own_go (fun _ k => XS.iconst X0.here hx rfl (hb hby d12_19) k) ?_
      show own_Gl p.tables e below F (s₁.setTop (mkF m 20 #[.val (.int p1), .val (.int p2), .val (.int (1 : Int32))] [(.int (0 : Int32)), (.int p1)]))
      obtain ⟨_, _, ⟨T1, L1, k1, n1⟩, -, X1, ⟨Lc1, hQ1, l1, y1, z1⟩, st1⟩ := Jvm.LawKit.callS X0 hx (y := (⟨"com/example/cores_from_twigs/coresfromtwigs/constraints/ConstraintEqualsPinLaw", "ch", "(II)C"⟩ : MethodName)) hown (mvT hZ (hw _ (List.mem_of_getElem? (i := 26) rfl))) (mvT hZ (hw _ (List.mem_of_getElem? (i := 27) rfl))) (mvT hZ (hw _ (List.mem_of_getElem? (i := 2) rfl))) (mvT hZ (hw _ (List.mem_of_getElem? (i := 28) rfl))) (by decide) (backOf (W := 0) (rm5 l Z a0 hw [] p1 (0 : Int32)  h0 n0 Z0 ) hZ (hw _ (List.mem_of_getElem? (i := 28) rfl)) (hw _ (List.mem_of_getElem? (i := 2) rfl)) (by decide) (by decide)) (g := (mkF m 20 #[.val (.int p1), .val (.int p2), .val (.int (1 : Int32))] [(.int (0 : Int32)), (.int p1)])) rfl (by rw [hml]; rfl) (argsL := [(.int p1), (.int (0 : Int32))]) (rest := []) (lenOf pd_2 rfl) rfl (by show 2 * 0 + _ ≤ _; exact Nat.le_of_eq rfl) (hb hby d12_20) (fun _ _ => ⟨rfl, e0, (by first | decide | exact Nat.le_of_ble_eq_true rfl), (by first | decide | exact Nat.le_of_ble_eq_true rfl)⟩)
      dsimp only [Pt.U, Pt.locs, Pt.cells, Pt.slots] at X1 l1 y1 z1 st1 hQ1
      obtain ⟨rfl, N1, e1⟩ := hQ1
      have X1 := own_sn X1 (k' := 0) (n' := 0) y1 z1
      have NF1 := own_fr l1 N0 N1
      refine own_go st1 ?_
      show own_Gl p.tables e below F (T1.setTop (mkF m 23 #[.val (.int p1), .val (.int p2), .val (.int (1 : Int32))] [(.int (own_c p1 (0 : Int32)))]))
      refine own_go (fun _ k => XS.iloadN X1.here hx rfl (hb hby d12_23) rfl k) ?_
      show own_Gl p.tables e below F (T1.setTop (mkF m 24 #[.val (.int p1), .val (.int p2), .val (.int (1 : Int32))] [(.int p2), (.int (own_c p1 (0 : Int32)))]))
      refine own_go (fun _ k => XS.iconst X1.here hx rfl (hb hby d12_24) k) ?_
      show own_Gl p.tables e below F (T1.setTop (mkF m 25 #[.val (.int p1), .val (.int p2), .val (.int (1 : Int32))] [(.int (0 : Int32)), (.int p2), (.int (own_c p1 (0 : Int32)))]))
      obtain ⟨_, _, ⟨T2, L2, k2, n2⟩, -, X2, ⟨Lc2, hQ2, l2, y2, z2⟩, st2⟩ := Jvm.LawKit.callS X1 hx (y := (⟨"com/example/cores_from_twigs/coresfromtwigs/constraints/ConstraintEqualsPinLaw", "ch", "(II)C"⟩ : MethodName)) hown (mvT hZ (hw _ (List.mem_of_getElem? (i := 26) rfl))) (mvT hZ (hw _ (List.mem_of_getElem? (i := 27) rfl))) (mvT hZ (hw _ (List.mem_of_getElem? (i := 2) rfl))) (mvT hZ (hw _ (List.mem_of_getElem? (i := 28) rfl))) (by decide) (backOf (W := 1) (rm5 l Z a0 hw [] p2 (0 : Int32)  h0 n0 Z0 ) hZ (hw _ (List.mem_of_getElem? (i := 28) rfl)) (hw _ (List.mem_of_getElem? (i := 2) rfl)) (by decide) (by decide)) (g := (mkF m 25 #[.val (.int p1), .val (.int p2), .val (.int (1 : Int32))] [(.int (0 : Int32)), (.int p2), (.int (own_c p1 (0 : Int32)))])) rfl (by rw [hml]; rfl) (argsL := [(.int p2), (.int (0 : Int32))]) (rest := [(.int (own_c p1 (0 : Int32)))]) (lenOf pd_2 rfl) rfl (by show 2 * 0 + _ ≤ _; exact Nat.le_of_eq rfl) (hb hby d12_25) (fun _ _ => ⟨rfl, e1, (by first | decide | exact Nat.le_of_ble_eq_true rfl), (by first | decide | exact Nat.le_of_ble_eq_true rfl)⟩)
      dsimp only [Pt.U, Pt.locs, Pt.cells, Pt.slots] at X2 l2 y2 z2 st2 hQ2
      obtain ⟨rfl, N2, e2⟩ := hQ2
      have X2 := own_sn X2 (k' := 0) (n' := 0) y2 z2
      have NF2 := own_fr l2 NF1 N2
      refine own_go st2 ?_
      show own_Gl p.tables e below F (T2.setTop (mkF m 28 #[.val (.int p1), .val (.int p2), .val (.int (1 : Int32))] [(.int (own_c p2 (0 : Int32))), (.int (own_c p1 (0 : Int32)))]))
      by_cases hc0 : own_c p1 (0 : Int32) = own_c p2 (0 : Int32)
      · refine own_go (fun _ k => XS.icmpYes X2.here hx rfl (pc0 := 28) (pc' := 33) rfl (hb hby d12_28) rfl (XT.ii_eq_t hc0) (by decide) (by decide) k) ?_
        show own_Gl p.tables e below F (T2.setTop (mkF m 33 #[.val (.int p1), .val (.int p2), .val (.int (1 : Int32))] []))
        refine own_go (fun _ k => XS.iloadN X2.here hx rfl (hb hby d12_33) rfl k) ?_
        show own_Gl p.tables e below F (T2.setTop (mkF m 34 #[.val (.int p1), .val (.int p2), .val (.int (1 : Int32))] [(.int (1 : Int32))]))
        refine own_go (fun _ k => XS.iconst X2.here hx rfl (hb hby d12_34) k) ?_
        show own_Gl p.tables e below F (T2.setTop (mkF m 35 #[.val (.int p1), .val (.int p2), .val (.int (1 : Int32))] [(.int (2 : Int32)), (.int (1 : Int32))]))
        refine own_go (fun _ k => XS.icmpYes X2.here hx rfl (pc0 := 35) (pc' := 53) rfl (hb hby d12_35) rfl (XT.ii_lt_t (by decide)) (by decide) (by decide) k) ?_
        show own_Gl p.tables e below F (T2.setTop (mkF m 53 #[.val (.int p1), .val (.int p2), .val (.int (1 : Int32))] []))
        refine own_go (fun _ k => XS.iloadN X2.here hx rfl (hb hby d12_53) rfl k) ?_
        show own_Gl p.tables e below F (T2.setTop (mkF m 54 #[.val (.int p1), .val (.int p2), .val (.int (1 : Int32))] [(.int (1 : Int32))]))
        refine own_go (fun _ k => XS.iconst X2.here hx rfl (hb hby d12_54) k) ?_
        show own_Gl p.tables e below F (T2.setTop (mkF m 55 #[.val (.int p1), .val (.int p2), .val (.int (1 : Int32))] [(.int (3 : Int32)), (.int (1 : Int32))]))
        refine own_go (fun _ k => XS.icmpYes X2.here hx rfl (pc0 := 55) (pc' := 73) rfl (hb hby d12_55) rfl (XT.ii_lt_t (by decide)) (by decide) (by decide) k) ?_
        show own_Gl p.tables e below F (T2.setTop (mkF m 73 #[.val (.int p1), .val (.int p2), .val (.int (1 : Int32))] []))
        refine own_go (fun _ k => XS.iconst X2.here hx rfl (hb hby d12_73) k) ?_
        show own_Gl p.tables e below F (T2.setTop (mkF m 74 #[.val (.int p1), .val (.int p2), .val (.int (1 : Int32))] [(.int (1 : Int32))]))
        obtain ⟨fs, hr, hrun, hended, hW, hsame⟩ := X2.leave (v := some (.int (1 : Int32))) (fun h => by rw [Bd.returns] at h; cases h)
        subst hF
        refine own_fin ?_ ⟨hrun, hended, _, _, rfl, ?_, ⟨_, rfl⟩, hW, hsame.mono (by first | decide | exact Nat.le_of_ble_eq_true rfl) (by first | decide | exact Nat.le_of_ble_eq_true rfl)⟩
        · exact own_retN X2 hx (t := .boolean) Bd.returns (by simp) rfl (hb hby d12_74) hr
        · show Q_rm12 Z _ _ h0 n0 _ T2.heap _
          rw [e2]
          exact ⟨by rw [own_same, own_cs1 hm, own_cs1 hm2, if_pos (by rw [hc0])], NF2, rfl⟩
      · refine own_go (fun _ k => XS.icmpNo X2.here hx rfl (hb hby d12_28) rfl (XT.ii_eq_f hc0) k) ?_
        show own_Gl p.tables e below F (T2.setTop (mkF m 31 #[.val (.int p1), .val (.int p2), .val (.int (1 : Int32))] []))
        refine own_go (fun _ k => XS.iconst X2.here hx rfl (hb hby d12_31) k) ?_
        show own_Gl p.tables e below F (T2.setTop (mkF m 32 #[.val (.int p1), .val (.int p2), .val (.int (1 : Int32))] [(.int (0 : Int32))]))
        obtain ⟨fs, hr, hrun, hended, hW, hsame⟩ := X2.leave (v := some (.int (0 : Int32))) (fun h => by rw [Bd.returns] at h; cases h)
        subst hF
        refine own_fin ?_ ⟨hrun, hended, _, _, rfl, ?_, ⟨_, rfl⟩, hW, hsame.mono (by first | decide | exact Nat.le_of_ble_eq_true rfl) (by first | decide | exact Nat.le_of_ble_eq_true rfl)⟩
        · exact own_retN X2 hx (t := .boolean) Bd.returns (by simp) rfl (hb hby d12_32) hr
        · show Q_rm12 Z _ _ h0 n0 _ T2.heap _
          rw [e2]
          exact ⟨by rw [own_same, own_cs1 hm, own_cs1 hm2, if_neg (fun q => hc0 (by simp at q; exact q))], NF2, rfl⟩
    · have hm2 : p2 &&& 3 = 2 := hq.symm.trans hm
      rw [hm]
      show own_Gl p.tables e below F (s₁.setTop (mkF m 13 #[.val (.int p1), .val (.int p2), .val (.int (2 : Int32))] []))
      refine own_go (fun _ k => XS.iloadN X0.here hx rfl (hb hby d12_13) rfl k) ?_
      show own_Gl p.tables e below F (s₁.setTop (mkF m 14 #[.val (.int p1), .val (.int p2), .val (.int (2 : Int32))] [(.int (2 : Int32))]))
      refine own_go (fun _ k => XS.iconst X0.here hx rfl (hb hby d12_14) k) ?_
      show own_Gl p.tables e below F (s₁.setTop (mkF m 15 #[.val (.int p1), .val (.int p2), .val (.int (2 : Int32))] [(.int (1 : Int32)), (.int (2 : Int32))]))
      refine own_go (fun _ k => XS.icmpNo X0.here hx rfl (hb hby d12_15) rfl (XT.ii_lt_f (by decide)) k) ?_
      show own_Gl p.tables e below F (s₁.setTop (mkF m 18 #[.val (.int p1), .val (.int p2), .val (.int (2 : Int32))] []))
      refine own_go (fun _ k => XS.iloadN X0.here hx rfl (hb hby d12_18) rfl k) ?_
      show own_Gl p.tables e below F (s₁.setTop (mkF m 19 #[.val (.int p1), .val (.int p2), .val (.int (2 : Int32))] [(.int p1)]))
      refine own_go (fun _ k => XS.iconst X0.here hx rfl (hb hby d12_19) k) ?_
      show own_Gl p.tables e below F (s₁.setTop (mkF m 20 #[.val (.int p1), .val (.int p2), .val (.int (2 : Int32))] [(.int (0 : Int32)), (.int p1)]))
      obtain ⟨_, _, ⟨T3, L3, k3, n3⟩, -, X3, ⟨Lc3, hQ3, l3, y3, z3⟩, st3⟩ := Jvm.LawKit.callS X0 hx (y := (⟨"com/example/cores_from_twigs/coresfromtwigs/constraints/ConstraintEqualsPinLaw", "ch", "(II)C"⟩ : MethodName)) hown (mvT hZ (hw _ (List.mem_of_getElem? (i := 26) rfl))) (mvT hZ (hw _ (List.mem_of_getElem? (i := 27) rfl))) (mvT hZ (hw _ (List.mem_of_getElem? (i := 2) rfl))) (mvT hZ (hw _ (List.mem_of_getElem? (i := 28) rfl))) (by decide) (backOf (W := 0) (rm5 l Z a0 hw [] p1 (0 : Int32)  h0 n0 Z0 ) hZ (hw _ (List.mem_of_getElem? (i := 28) rfl)) (hw _ (List.mem_of_getElem? (i := 2) rfl)) (by decide) (by decide)) (g := (mkF m 20 #[.val (.int p1), .val (.int p2), .val (.int (2 : Int32))] [(.int (0 : Int32)), (.int p1)])) rfl (by rw [hml]; rfl) (argsL := [(.int p1), (.int (0 : Int32))]) (rest := []) (lenOf pd_2 rfl) rfl (by show 2 * 0 + _ ≤ _; exact Nat.le_of_eq rfl) (hb hby d12_20) (fun _ _ => ⟨rfl, e0, (by first | decide | exact Nat.le_of_ble_eq_true rfl), (by first | decide | exact Nat.le_of_ble_eq_true rfl)⟩)
      dsimp only [Pt.U, Pt.locs, Pt.cells, Pt.slots] at X3 l3 y3 z3 st3 hQ3
      obtain ⟨rfl, N3, e3⟩ := hQ3
      have X3 := own_sn X3 (k' := 0) (n' := 0) y3 z3
      have NF3 := own_fr l3 N0 N3
      refine own_go st3 ?_
      show own_Gl p.tables e below F (T3.setTop (mkF m 23 #[.val (.int p1), .val (.int p2), .val (.int (2 : Int32))] [(.int (own_c p1 (0 : Int32)))]))
      refine own_go (fun _ k => XS.iloadN X3.here hx rfl (hb hby d12_23) rfl k) ?_
      show own_Gl p.tables e below F (T3.setTop (mkF m 24 #[.val (.int p1), .val (.int p2), .val (.int (2 : Int32))] [(.int p2), (.int (own_c p1 (0 : Int32)))]))
      refine own_go (fun _ k => XS.iconst X3.here hx rfl (hb hby d12_24) k) ?_
      show own_Gl p.tables e below F (T3.setTop (mkF m 25 #[.val (.int p1), .val (.int p2), .val (.int (2 : Int32))] [(.int (0 : Int32)), (.int p2), (.int (own_c p1 (0 : Int32)))]))
      obtain ⟨_, _, ⟨T4, L4, k4, n4⟩, -, X4, ⟨Lc4, hQ4, l4, y4, z4⟩, st4⟩ := Jvm.LawKit.callS X3 hx (y := (⟨"com/example/cores_from_twigs/coresfromtwigs/constraints/ConstraintEqualsPinLaw", "ch", "(II)C"⟩ : MethodName)) hown (mvT hZ (hw _ (List.mem_of_getElem? (i := 26) rfl))) (mvT hZ (hw _ (List.mem_of_getElem? (i := 27) rfl))) (mvT hZ (hw _ (List.mem_of_getElem? (i := 2) rfl))) (mvT hZ (hw _ (List.mem_of_getElem? (i := 28) rfl))) (by decide) (backOf (W := 1) (rm5 l Z a0 hw [] p2 (0 : Int32)  h0 n0 Z0 ) hZ (hw _ (List.mem_of_getElem? (i := 28) rfl)) (hw _ (List.mem_of_getElem? (i := 2) rfl)) (by decide) (by decide)) (g := (mkF m 25 #[.val (.int p1), .val (.int p2), .val (.int (2 : Int32))] [(.int (0 : Int32)), (.int p2), (.int (own_c p1 (0 : Int32)))])) rfl (by rw [hml]; rfl) (argsL := [(.int p2), (.int (0 : Int32))]) (rest := [(.int (own_c p1 (0 : Int32)))]) (lenOf pd_2 rfl) rfl (by show 2 * 0 + _ ≤ _; exact Nat.le_of_eq rfl) (hb hby d12_25) (fun _ _ => ⟨rfl, e3, (by first | decide | exact Nat.le_of_ble_eq_true rfl), (by first | decide | exact Nat.le_of_ble_eq_true rfl)⟩)
      dsimp only [Pt.U, Pt.locs, Pt.cells, Pt.slots] at X4 l4 y4 z4 st4 hQ4
      obtain ⟨rfl, N4, e4⟩ := hQ4
      have X4 := own_sn X4 (k' := 0) (n' := 0) y4 z4
      have NF4 := own_fr l4 NF3 N4
      refine own_go st4 ?_
      show own_Gl p.tables e below F (T4.setTop (mkF m 28 #[.val (.int p1), .val (.int p2), .val (.int (2 : Int32))] [(.int (own_c p2 (0 : Int32))), (.int (own_c p1 (0 : Int32)))]))
      by_cases hc0 : own_c p1 (0 : Int32) = own_c p2 (0 : Int32)
      · refine own_go (fun _ k => XS.icmpYes X4.here hx rfl (pc0 := 28) (pc' := 33) rfl (hb hby d12_28) rfl (XT.ii_eq_t hc0) (by decide) (by decide) k) ?_
        show own_Gl p.tables e below F (T4.setTop (mkF m 33 #[.val (.int p1), .val (.int p2), .val (.int (2 : Int32))] []))
        refine own_go (fun _ k => XS.iloadN X4.here hx rfl (hb hby d12_33) rfl k) ?_
        show own_Gl p.tables e below F (T4.setTop (mkF m 34 #[.val (.int p1), .val (.int p2), .val (.int (2 : Int32))] [(.int (2 : Int32))]))
        refine own_go (fun _ k => XS.iconst X4.here hx rfl (hb hby d12_34) k) ?_
        show own_Gl p.tables e below F (T4.setTop (mkF m 35 #[.val (.int p1), .val (.int p2), .val (.int (2 : Int32))] [(.int (2 : Int32)), (.int (2 : Int32))]))
        refine own_go (fun _ k => XS.icmpNo X4.here hx rfl (hb hby d12_35) rfl (XT.ii_lt_f (by decide)) k) ?_
        show own_Gl p.tables e below F (T4.setTop (mkF m 38 #[.val (.int p1), .val (.int p2), .val (.int (2 : Int32))] []))
        refine own_go (fun _ k => XS.iloadN X4.here hx rfl (hb hby d12_38) rfl k) ?_
        show own_Gl p.tables e below F (T4.setTop (mkF m 39 #[.val (.int p1), .val (.int p2), .val (.int (2 : Int32))] [(.int p1)]))
        refine own_go (fun _ k => XS.iconst X4.here hx rfl (hb hby d12_39) k) ?_
        show own_Gl p.tables e below F (T4.setTop (mkF m 40 #[.val (.int p1), .val (.int p2), .val (.int (2 : Int32))] [(.int (1 : Int32)), (.int p1)]))
        obtain ⟨_, _, ⟨T5, L5, k5, n5⟩, -, X5, ⟨Lc5, hQ5, l5, y5, z5⟩, st5⟩ := Jvm.LawKit.callS X4 hx (y := (⟨"com/example/cores_from_twigs/coresfromtwigs/constraints/ConstraintEqualsPinLaw", "ch", "(II)C"⟩ : MethodName)) hown (mvT hZ (hw _ (List.mem_of_getElem? (i := 26) rfl))) (mvT hZ (hw _ (List.mem_of_getElem? (i := 27) rfl))) (mvT hZ (hw _ (List.mem_of_getElem? (i := 2) rfl))) (mvT hZ (hw _ (List.mem_of_getElem? (i := 28) rfl))) (by decide) (backOf (W := 0) (rm5 l Z a0 hw [] p1 (1 : Int32)  h0 n0 Z0 ) hZ (hw _ (List.mem_of_getElem? (i := 28) rfl)) (hw _ (List.mem_of_getElem? (i := 2) rfl)) (by decide) (by decide)) (g := (mkF m 40 #[.val (.int p1), .val (.int p2), .val (.int (2 : Int32))] [(.int (1 : Int32)), (.int p1)])) rfl (by rw [hml]; rfl) (argsL := [(.int p1), (.int (1 : Int32))]) (rest := []) (lenOf pd_2 rfl) rfl (by show 2 * 0 + _ ≤ _; exact Nat.le_of_eq rfl) (hb hby d12_40) (fun _ _ => ⟨rfl, e4, (by first | decide | exact Nat.le_of_ble_eq_true rfl), (by first | decide | exact Nat.le_of_ble_eq_true rfl)⟩)
        dsimp only [Pt.U, Pt.locs, Pt.cells, Pt.slots] at X5 l5 y5 z5 st5 hQ5
        obtain ⟨rfl, N5, e5⟩ := hQ5
        have X5 := own_sn X5 (k' := 0) (n' := 0) y5 z5
        have NF5 := own_fr l5 NF4 N5
        refine own_go st5 ?_
        show own_Gl p.tables e below F (T5.setTop (mkF m 43 #[.val (.int p1), .val (.int p2), .val (.int (2 : Int32))] [(.int (own_c p1 (1 : Int32)))]))
        refine own_go (fun _ k => XS.iloadN X5.here hx rfl (hb hby d12_43) rfl k) ?_
        show own_Gl p.tables e below F (T5.setTop (mkF m 44 #[.val (.int p1), .val (.int p2), .val (.int (2 : Int32))] [(.int p2), (.int (own_c p1 (1 : Int32)))]))
        refine own_go (fun _ k => XS.iconst X5.here hx rfl (hb hby d12_44) k) ?_
        show own_Gl p.tables e below F (T5.setTop (mkF m 45 #[.val (.int p1), .val (.int p2), .val (.int (2 : Int32))] [(.int (1 : Int32)), (.int p2), (.int (own_c p1 (1 : Int32)))]))
        obtain ⟨_, _, ⟨T6, L6, k6, n6⟩, -, X6, ⟨Lc6, hQ6, l6, y6, z6⟩, st6⟩ := Jvm.LawKit.callS X5 hx (y := (⟨"com/example/cores_from_twigs/coresfromtwigs/constraints/ConstraintEqualsPinLaw", "ch", "(II)C"⟩ : MethodName)) hown (mvT hZ (hw _ (List.mem_of_getElem? (i := 26) rfl))) (mvT hZ (hw _ (List.mem_of_getElem? (i := 27) rfl))) (mvT hZ (hw _ (List.mem_of_getElem? (i := 2) rfl))) (mvT hZ (hw _ (List.mem_of_getElem? (i := 28) rfl))) (by decide) (backOf (W := 1) (rm5 l Z a0 hw [] p2 (1 : Int32)  h0 n0 Z0 ) hZ (hw _ (List.mem_of_getElem? (i := 28) rfl)) (hw _ (List.mem_of_getElem? (i := 2) rfl)) (by decide) (by decide)) (g := (mkF m 45 #[.val (.int p1), .val (.int p2), .val (.int (2 : Int32))] [(.int (1 : Int32)), (.int p2), (.int (own_c p1 (1 : Int32)))])) rfl (by rw [hml]; rfl) (argsL := [(.int p2), (.int (1 : Int32))]) (rest := [(.int (own_c p1 (1 : Int32)))]) (lenOf pd_2 rfl) rfl (by show 2 * 0 + _ ≤ _; exact Nat.le_of_eq rfl) (hb hby d12_45) (fun _ _ => ⟨rfl, e5, (by first | decide | exact Nat.le_of_ble_eq_true rfl), (by first | decide | exact Nat.le_of_ble_eq_true rfl)⟩)
        dsimp only [Pt.U, Pt.locs, Pt.cells, Pt.slots] at X6 l6 y6 z6 st6 hQ6
        obtain ⟨rfl, N6, e6⟩ := hQ6
        have X6 := own_sn X6 (k' := 0) (n' := 0) y6 z6
        have NF6 := own_fr l6 NF5 N6
        refine own_go st6 ?_
        show own_Gl p.tables e below F (T6.setTop (mkF m 48 #[.val (.int p1), .val (.int p2), .val (.int (2 : Int32))] [(.int (own_c p2 (1 : Int32))), (.int (own_c p1 (1 : Int32)))]))
        by_cases hc1 : own_c p1 (1 : Int32) = own_c p2 (1 : Int32)
        · refine own_go (fun _ k => XS.icmpYes X6.here hx rfl (pc0 := 48) (pc' := 53) rfl (hb hby d12_48) rfl (XT.ii_eq_t hc1) (by decide) (by decide) k) ?_
          show own_Gl p.tables e below F (T6.setTop (mkF m 53 #[.val (.int p1), .val (.int p2), .val (.int (2 : Int32))] []))
          refine own_go (fun _ k => XS.iloadN X6.here hx rfl (hb hby d12_53) rfl k) ?_
          show own_Gl p.tables e below F (T6.setTop (mkF m 54 #[.val (.int p1), .val (.int p2), .val (.int (2 : Int32))] [(.int (2 : Int32))]))
          refine own_go (fun _ k => XS.iconst X6.here hx rfl (hb hby d12_54) k) ?_
          show own_Gl p.tables e below F (T6.setTop (mkF m 55 #[.val (.int p1), .val (.int p2), .val (.int (2 : Int32))] [(.int (3 : Int32)), (.int (2 : Int32))]))
          refine own_go (fun _ k => XS.icmpYes X6.here hx rfl (pc0 := 55) (pc' := 73) rfl (hb hby d12_55) rfl (XT.ii_lt_t (by decide)) (by decide) (by decide) k) ?_
          show own_Gl p.tables e below F (T6.setTop (mkF m 73 #[.val (.int p1), .val (.int p2), .val (.int (2 : Int32))] []))
          refine own_go (fun _ k => XS.iconst X6.here hx rfl (hb hby d12_73) k) ?_
          show own_Gl p.tables e below F (T6.setTop (mkF m 74 #[.val (.int p1), .val (.int p2), .val (.int (2 : Int32))] [(.int (1 : Int32))]))
          obtain ⟨fs, hr, hrun, hended, hW, hsame⟩ := X6.leave (v := some (.int (1 : Int32))) (fun h => by rw [Bd.returns] at h; cases h)
          subst hF
          refine own_fin ?_ ⟨hrun, hended, _, _, rfl, ?_, ⟨_, rfl⟩, hW, hsame.mono (by first | decide | exact Nat.le_of_ble_eq_true rfl) (by first | decide | exact Nat.le_of_ble_eq_true rfl)⟩
          · exact own_retN X6 hx (t := .boolean) Bd.returns (by simp) rfl (hb hby d12_74) hr
          · show Q_rm12 Z _ _ h0 n0 _ T6.heap _
            rw [e6]
            exact ⟨by rw [own_same, own_cs2 hm, own_cs2 hm2, if_pos (by rw [hc0, hc1])], NF6, rfl⟩
        · refine own_go (fun _ k => XS.icmpNo X6.here hx rfl (hb hby d12_48) rfl (XT.ii_eq_f hc1) k) ?_
          show own_Gl p.tables e below F (T6.setTop (mkF m 51 #[.val (.int p1), .val (.int p2), .val (.int (2 : Int32))] []))
          refine own_go (fun _ k => XS.iconst X6.here hx rfl (hb hby d12_51) k) ?_
          show own_Gl p.tables e below F (T6.setTop (mkF m 52 #[.val (.int p1), .val (.int p2), .val (.int (2 : Int32))] [(.int (0 : Int32))]))
          obtain ⟨fs, hr, hrun, hended, hW, hsame⟩ := X6.leave (v := some (.int (0 : Int32))) (fun h => by rw [Bd.returns] at h; cases h)
          subst hF
          refine own_fin ?_ ⟨hrun, hended, _, _, rfl, ?_, ⟨_, rfl⟩, hW, hsame.mono (by first | decide | exact Nat.le_of_ble_eq_true rfl) (by first | decide | exact Nat.le_of_ble_eq_true rfl)⟩
          · exact own_retN X6 hx (t := .boolean) Bd.returns (by simp) rfl (hb hby d12_52) hr
          · show Q_rm12 Z _ _ h0 n0 _ T6.heap _
            rw [e6]
            exact ⟨by rw [own_same, own_cs2 hm, own_cs2 hm2, if_neg (fun q => hc1 (by simp at q; exact q.2))], NF6, rfl⟩
      · refine own_go (fun _ k => XS.icmpNo X4.here hx rfl (hb hby d12_28) rfl (XT.ii_eq_f hc0) k) ?_
        show own_Gl p.tables e below F (T4.setTop (mkF m 31 #[.val (.int p1), .val (.int p2), .val (.int (2 : Int32))] []))
        refine own_go (fun _ k => XS.iconst X4.here hx rfl (hb hby d12_31) k) ?_
        show own_Gl p.tables e below F (T4.setTop (mkF m 32 #[.val (.int p1), .val (.int p2), .val (.int (2 : Int32))] [(.int (0 : Int32))]))
        obtain ⟨fs, hr, hrun, hended, hW, hsame⟩ := X4.leave (v := some (.int (0 : Int32))) (fun h => by rw [Bd.returns] at h; cases h)
        subst hF
        refine own_fin ?_ ⟨hrun, hended, _, _, rfl, ?_, ⟨_, rfl⟩, hW, hsame.mono (by first | decide | exact Nat.le_of_ble_eq_true rfl) (by first | decide | exact Nat.le_of_ble_eq_true rfl)⟩
        · exact own_retN X4 hx (t := .boolean) Bd.returns (by simp) rfl (hb hby d12_32) hr
        · show Q_rm12 Z _ _ h0 n0 _ T4.heap _
          rw [e4]
          exact ⟨by rw [own_same, own_cs2 hm, own_cs2 hm2, if_neg (fun q => hc0 (by simp at q; exact q.1))], NF4, rfl⟩
    · have hm2 : p2 &&& 3 = 3 := hq.symm.trans hm
      rw [hm]
      show own_Gl p.tables e below F (s₁.setTop (mkF m 13 #[.val (.int p1), .val (.int p2), .val (.int (3 : Int32))] []))
      refine own_go (fun _ k => XS.iloadN X0.here hx rfl (hb hby d12_13) rfl k) ?_
      show own_Gl p.tables e below F (s₁.setTop (mkF m 14 #[.val (.int p1), .val (.int p2), .val (.int (3 : Int32))] [(.int (3 : Int32))]))
      refine own_go (fun _ k => XS.iconst X0.here hx rfl (hb hby d12_14) k) ?_
      show own_Gl p.tables e below F (s₁.setTop (mkF m 15 #[.val (.int p1), .val (.int p2), .val (.int (3 : Int32))] [(.int (1 : Int32)), (.int (3 : Int32))]))
      refine own_go (fun _ k => XS.icmpNo X0.here hx rfl (hb hby d12_15) rfl (XT.ii_lt_f (by decide)) k) ?_
      show own_Gl p.tables e below F (s₁.setTop (mkF m 18 #[.val (.int p1), .val (.int p2), .val (.int (3 : Int32))] []))
      refine own_go (fun _ k => XS.iloadN X0.here hx rfl (hb hby d12_18) rfl k) ?_
      show own_Gl p.tables e below F (s₁.setTop (mkF m 19 #[.val (.int p1), .val (.int p2), .val (.int (3 : Int32))] [(.int p1)]))
      refine own_go (fun _ k => XS.iconst X0.here hx rfl (hb hby d12_19) k) ?_
      show own_Gl p.tables e below F (s₁.setTop (mkF m 20 #[.val (.int p1), .val (.int p2), .val (.int (3 : Int32))] [(.int (0 : Int32)), (.int p1)]))
      obtain ⟨_, _, ⟨T7, L7, k7, n7⟩, -, X7, ⟨Lc7, hQ7, l7, y7, z7⟩, st7⟩ := Jvm.LawKit.callS X0 hx (y := (⟨"com/example/cores_from_twigs/coresfromtwigs/constraints/ConstraintEqualsPinLaw", "ch", "(II)C"⟩ : MethodName)) hown (mvT hZ (hw _ (List.mem_of_getElem? (i := 26) rfl))) (mvT hZ (hw _ (List.mem_of_getElem? (i := 27) rfl))) (mvT hZ (hw _ (List.mem_of_getElem? (i := 2) rfl))) (mvT hZ (hw _ (List.mem_of_getElem? (i := 28) rfl))) (by decide) (backOf (W := 0) (rm5 l Z a0 hw [] p1 (0 : Int32)  h0 n0 Z0 ) hZ (hw _ (List.mem_of_getElem? (i := 28) rfl)) (hw _ (List.mem_of_getElem? (i := 2) rfl)) (by decide) (by decide)) (g := (mkF m 20 #[.val (.int p1), .val (.int p2), .val (.int (3 : Int32))] [(.int (0 : Int32)), (.int p1)])) rfl (by rw [hml]; rfl) (argsL := [(.int p1), (.int (0 : Int32))]) (rest := []) (lenOf pd_2 rfl) rfl (by show 2 * 0 + _ ≤ _; exact Nat.le_of_eq rfl) (hb hby d12_20) (fun _ _ => ⟨rfl, e0, (by first | decide | exact Nat.le_of_ble_eq_true rfl), (by first | decide | exact Nat.le_of_ble_eq_true rfl)⟩)
      dsimp only [Pt.U, Pt.locs, Pt.cells, Pt.slots] at X7 l7 y7 z7 st7 hQ7
      obtain ⟨rfl, N7, e7⟩ := hQ7
      have X7 := own_sn X7 (k' := 0) (n' := 0) y7 z7
      have NF7 := own_fr l7 N0 N7
      refine own_go st7 ?_
      show own_Gl p.tables e below F (T7.setTop (mkF m 23 #[.val (.int p1), .val (.int p2), .val (.int (3 : Int32))] [(.int (own_c p1 (0 : Int32)))]))
      refine own_go (fun _ k => XS.iloadN X7.here hx rfl (hb hby d12_23) rfl k) ?_
      show own_Gl p.tables e below F (T7.setTop (mkF m 24 #[.val (.int p1), .val (.int p2), .val (.int (3 : Int32))] [(.int p2), (.int (own_c p1 (0 : Int32)))]))
      refine own_go (fun _ k => XS.iconst X7.here hx rfl (hb hby d12_24) k) ?_
      show own_Gl p.tables e below F (T7.setTop (mkF m 25 #[.val (.int p1), .val (.int p2), .val (.int (3 : Int32))] [(.int (0 : Int32)), (.int p2), (.int (own_c p1 (0 : Int32)))]))
      obtain ⟨_, _, ⟨T8, L8, k8, n8⟩, -, X8, ⟨Lc8, hQ8, l8, y8, z8⟩, st8⟩ := Jvm.LawKit.callS X7 hx (y := (⟨"com/example/cores_from_twigs/coresfromtwigs/constraints/ConstraintEqualsPinLaw", "ch", "(II)C"⟩ : MethodName)) hown (mvT hZ (hw _ (List.mem_of_getElem? (i := 26) rfl))) (mvT hZ (hw _ (List.mem_of_getElem? (i := 27) rfl))) (mvT hZ (hw _ (List.mem_of_getElem? (i := 2) rfl))) (mvT hZ (hw _ (List.mem_of_getElem? (i := 28) rfl))) (by decide) (backOf (W := 1) (rm5 l Z a0 hw [] p2 (0 : Int32)  h0 n0 Z0 ) hZ (hw _ (List.mem_of_getElem? (i := 28) rfl)) (hw _ (List.mem_of_getElem? (i := 2) rfl)) (by decide) (by decide)) (g := (mkF m 25 #[.val (.int p1), .val (.int p2), .val (.int (3 : Int32))] [(.int (0 : Int32)), (.int p2), (.int (own_c p1 (0 : Int32)))])) rfl (by rw [hml]; rfl) (argsL := [(.int p2), (.int (0 : Int32))]) (rest := [(.int (own_c p1 (0 : Int32)))]) (lenOf pd_2 rfl) rfl (by show 2 * 0 + _ ≤ _; exact Nat.le_of_eq rfl) (hb hby d12_25) (fun _ _ => ⟨rfl, e7, (by first | decide | exact Nat.le_of_ble_eq_true rfl), (by first | decide | exact Nat.le_of_ble_eq_true rfl)⟩)
      dsimp only [Pt.U, Pt.locs, Pt.cells, Pt.slots] at X8 l8 y8 z8 st8 hQ8
      obtain ⟨rfl, N8, e8⟩ := hQ8
      have X8 := own_sn X8 (k' := 0) (n' := 0) y8 z8
      have NF8 := own_fr l8 NF7 N8
      refine own_go st8 ?_
      show own_Gl p.tables e below F (T8.setTop (mkF m 28 #[.val (.int p1), .val (.int p2), .val (.int (3 : Int32))] [(.int (own_c p2 (0 : Int32))), (.int (own_c p1 (0 : Int32)))]))
      by_cases hc0 : own_c p1 (0 : Int32) = own_c p2 (0 : Int32)
      · refine own_go (fun _ k => XS.icmpYes X8.here hx rfl (pc0 := 28) (pc' := 33) rfl (hb hby d12_28) rfl (XT.ii_eq_t hc0) (by decide) (by decide) k) ?_
        show own_Gl p.tables e below F (T8.setTop (mkF m 33 #[.val (.int p1), .val (.int p2), .val (.int (3 : Int32))] []))
        refine own_go (fun _ k => XS.iloadN X8.here hx rfl (hb hby d12_33) rfl k) ?_
        show own_Gl p.tables e below F (T8.setTop (mkF m 34 #[.val (.int p1), .val (.int p2), .val (.int (3 : Int32))] [(.int (3 : Int32))]))
        refine own_go (fun _ k => XS.iconst X8.here hx rfl (hb hby d12_34) k) ?_
        show own_Gl p.tables e below F (T8.setTop (mkF m 35 #[.val (.int p1), .val (.int p2), .val (.int (3 : Int32))] [(.int (2 : Int32)), (.int (3 : Int32))]))
        refine own_go (fun _ k => XS.icmpNo X8.here hx rfl (hb hby d12_35) rfl (XT.ii_lt_f (by decide)) k) ?_
        show own_Gl p.tables e below F (T8.setTop (mkF m 38 #[.val (.int p1), .val (.int p2), .val (.int (3 : Int32))] []))
        refine own_go (fun _ k => XS.iloadN X8.here hx rfl (hb hby d12_38) rfl k) ?_
        show own_Gl p.tables e below F (T8.setTop (mkF m 39 #[.val (.int p1), .val (.int p2), .val (.int (3 : Int32))] [(.int p1)]))
        refine own_go (fun _ k => XS.iconst X8.here hx rfl (hb hby d12_39) k) ?_
        show own_Gl p.tables e below F (T8.setTop (mkF m 40 #[.val (.int p1), .val (.int p2), .val (.int (3 : Int32))] [(.int (1 : Int32)), (.int p1)]))
        obtain ⟨_, _, ⟨T9, L9, k9, n9⟩, -, X9, ⟨Lc9, hQ9, l9, y9, z9⟩, st9⟩ := Jvm.LawKit.callS X8 hx (y := (⟨"com/example/cores_from_twigs/coresfromtwigs/constraints/ConstraintEqualsPinLaw", "ch", "(II)C"⟩ : MethodName)) hown (mvT hZ (hw _ (List.mem_of_getElem? (i := 26) rfl))) (mvT hZ (hw _ (List.mem_of_getElem? (i := 27) rfl))) (mvT hZ (hw _ (List.mem_of_getElem? (i := 2) rfl))) (mvT hZ (hw _ (List.mem_of_getElem? (i := 28) rfl))) (by decide) (backOf (W := 0) (rm5 l Z a0 hw [] p1 (1 : Int32)  h0 n0 Z0 ) hZ (hw _ (List.mem_of_getElem? (i := 28) rfl)) (hw _ (List.mem_of_getElem? (i := 2) rfl)) (by decide) (by decide)) (g := (mkF m 40 #[.val (.int p1), .val (.int p2), .val (.int (3 : Int32))] [(.int (1 : Int32)), (.int p1)])) rfl (by rw [hml]; rfl) (argsL := [(.int p1), (.int (1 : Int32))]) (rest := []) (lenOf pd_2 rfl) rfl (by show 2 * 0 + _ ≤ _; exact Nat.le_of_eq rfl) (hb hby d12_40) (fun _ _ => ⟨rfl, e8, (by first | decide | exact Nat.le_of_ble_eq_true rfl), (by first | decide | exact Nat.le_of_ble_eq_true rfl)⟩)
        dsimp only [Pt.U, Pt.locs, Pt.cells, Pt.slots] at X9 l9 y9 z9 st9 hQ9
        obtain ⟨rfl, N9, e9⟩ := hQ9
        have X9 := own_sn X9 (k' := 0) (n' := 0) y9 z9
        have NF9 := own_fr l9 NF8 N9
        refine own_go st9 ?_
        show own_Gl p.tables e below F (T9.setTop (mkF m 43 #[.val (.int p1), .val (.int p2), .val (.int (3 : Int32))] [(.int (own_c p1 (1 : Int32)))]))
        refine own_go (fun _ k => XS.iloadN X9.here hx rfl (hb hby d12_43) rfl k) ?_
        show own_Gl p.tables e below F (T9.setTop (mkF m 44 #[.val (.int p1), .val (.int p2), .val (.int (3 : Int32))] [(.int p2), (.int (own_c p1 (1 : Int32)))]))
        refine own_go (fun _ k => XS.iconst X9.here hx rfl (hb hby d12_44) k) ?_
        show own_Gl p.tables e below F (T9.setTop (mkF m 45 #[.val (.int p1), .val (.int p2), .val (.int (3 : Int32))] [(.int (1 : Int32)), (.int p2), (.int (own_c p1 (1 : Int32)))]))
        obtain ⟨_, _, ⟨T10, L10, k10, n10⟩, -, X10, ⟨Lc10, hQ10, l10, y10, z10⟩, st10⟩ := Jvm.LawKit.callS X9 hx (y := (⟨"com/example/cores_from_twigs/coresfromtwigs/constraints/ConstraintEqualsPinLaw", "ch", "(II)C"⟩ : MethodName)) hown (mvT hZ (hw _ (List.mem_of_getElem? (i := 26) rfl))) (mvT hZ (hw _ (List.mem_of_getElem? (i := 27) rfl))) (mvT hZ (hw _ (List.mem_of_getElem? (i := 2) rfl))) (mvT hZ (hw _ (List.mem_of_getElem? (i := 28) rfl))) (by decide) (backOf (W := 1) (rm5 l Z a0 hw [] p2 (1 : Int32)  h0 n0 Z0 ) hZ (hw _ (List.mem_of_getElem? (i := 28) rfl)) (hw _ (List.mem_of_getElem? (i := 2) rfl)) (by decide) (by decide)) (g := (mkF m 45 #[.val (.int p1), .val (.int p2), .val (.int (3 : Int32))] [(.int (1 : Int32)), (.int p2), (.int (own_c p1 (1 : Int32)))])) rfl (by rw [hml]; rfl) (argsL := [(.int p2), (.int (1 : Int32))]) (rest := [(.int (own_c p1 (1 : Int32)))]) (lenOf pd_2 rfl) rfl (by show 2 * 0 + _ ≤ _; exact Nat.le_of_eq rfl) (hb hby d12_45) (fun _ _ => ⟨rfl, e9, (by first | decide | exact Nat.le_of_ble_eq_true rfl), (by first | decide | exact Nat.le_of_ble_eq_true rfl)⟩)
        dsimp only [Pt.U, Pt.locs, Pt.cells, Pt.slots] at X10 l10 y10 z10 st10 hQ10
        obtain ⟨rfl, N10, e10⟩ := hQ10
        have X10 := own_sn X10 (k' := 0) (n' := 0) y10 z10
        have NF10 := own_fr l10 NF9 N10
        refine own_go st10 ?_
        show own_Gl p.tables e below F (T10.setTop (mkF m 48 #[.val (.int p1), .val (.int p2), .val (.int (3 : Int32))] [(.int (own_c p2 (1 : Int32))), (.int (own_c p1 (1 : Int32)))]))
        by_cases hc1 : own_c p1 (1 : Int32) = own_c p2 (1 : Int32)
        · refine own_go (fun _ k => XS.icmpYes X10.here hx rfl (pc0 := 48) (pc' := 53) rfl (hb hby d12_48) rfl (XT.ii_eq_t hc1) (by decide) (by decide) k) ?_
          show own_Gl p.tables e below F (T10.setTop (mkF m 53 #[.val (.int p1), .val (.int p2), .val (.int (3 : Int32))] []))
          refine own_go (fun _ k => XS.iloadN X10.here hx rfl (hb hby d12_53) rfl k) ?_
          show own_Gl p.tables e below F (T10.setTop (mkF m 54 #[.val (.int p1), .val (.int p2), .val (.int (3 : Int32))] [(.int (3 : Int32))]))
          refine own_go (fun _ k => XS.iconst X10.here hx rfl (hb hby d12_54) k) ?_
          show own_Gl p.tables e below F (T10.setTop (mkF m 55 #[.val (.int p1), .val (.int p2), .val (.int (3 : Int32))] [(.int (3 : Int32)), (.int (3 : Int32))]))
          refine own_go (fun _ k => XS.icmpNo X10.here hx rfl (hb hby d12_55) rfl (XT.ii_lt_f (by decide)) k) ?_
          show own_Gl p.tables e below F (T10.setTop (mkF m 58 #[.val (.int p1), .val (.int p2), .val (.int (3 : Int32))] []))
          refine own_go (fun _ k => XS.iloadN X10.here hx rfl (hb hby d12_58) rfl k) ?_
          show own_Gl p.tables e below F (T10.setTop (mkF m 59 #[.val (.int p1), .val (.int p2), .val (.int (3 : Int32))] [(.int p1)]))
          refine own_go (fun _ k => XS.iconst X10.here hx rfl (hb hby d12_59) k) ?_
          show own_Gl p.tables e below F (T10.setTop (mkF m 60 #[.val (.int p1), .val (.int p2), .val (.int (3 : Int32))] [(.int (2 : Int32)), (.int p1)]))
          obtain ⟨_, _, ⟨T11, L11, k11, n11⟩, -, X11, ⟨Lc11, hQ11, l11, y11, z11⟩, st11⟩ := Jvm.LawKit.callS X10 hx (y := (⟨"com/example/cores_from_twigs/coresfromtwigs/constraints/ConstraintEqualsPinLaw", "ch", "(II)C"⟩ : MethodName)) hown (mvT hZ (hw _ (List.mem_of_getElem? (i := 26) rfl))) (mvT hZ (hw _ (List.mem_of_getElem? (i := 27) rfl))) (mvT hZ (hw _ (List.mem_of_getElem? (i := 2) rfl))) (mvT hZ (hw _ (List.mem_of_getElem? (i := 28) rfl))) (by decide) (backOf (W := 0) (rm5 l Z a0 hw [] p1 (2 : Int32)  h0 n0 Z0 ) hZ (hw _ (List.mem_of_getElem? (i := 28) rfl)) (hw _ (List.mem_of_getElem? (i := 2) rfl)) (by decide) (by decide)) (g := (mkF m 60 #[.val (.int p1), .val (.int p2), .val (.int (3 : Int32))] [(.int (2 : Int32)), (.int p1)])) rfl (by rw [hml]; rfl) (argsL := [(.int p1), (.int (2 : Int32))]) (rest := []) (lenOf pd_2 rfl) rfl (by show 2 * 0 + _ ≤ _; exact Nat.le_of_eq rfl) (hb hby d12_60) (fun _ _ => ⟨rfl, e10, (by first | decide | exact Nat.le_of_ble_eq_true rfl), (by first | decide | exact Nat.le_of_ble_eq_true rfl)⟩)
          dsimp only [Pt.U, Pt.locs, Pt.cells, Pt.slots] at X11 l11 y11 z11 st11 hQ11
          obtain ⟨rfl, N11, e11⟩ := hQ11
          have X11 := own_sn X11 (k' := 0) (n' := 0) y11 z11
          have NF11 := own_fr l11 NF10 N11
          refine own_go st11 ?_
          show own_Gl p.tables e below F (T11.setTop (mkF m 63 #[.val (.int p1), .val (.int p2), .val (.int (3 : Int32))] [(.int (own_c p1 (2 : Int32)))]))
          refine own_go (fun _ k => XS.iloadN X11.here hx rfl (hb hby d12_63) rfl k) ?_
          show own_Gl p.tables e below F (T11.setTop (mkF m 64 #[.val (.int p1), .val (.int p2), .val (.int (3 : Int32))] [(.int p2), (.int (own_c p1 (2 : Int32)))]))
          refine own_go (fun _ k => XS.iconst X11.here hx rfl (hb hby d12_64) k) ?_
          show own_Gl p.tables e below F (T11.setTop (mkF m 65 #[.val (.int p1), .val (.int p2), .val (.int (3 : Int32))] [(.int (2 : Int32)), (.int p2), (.int (own_c p1 (2 : Int32)))]))
          obtain ⟨_, _, ⟨T12, L12, k12, n12⟩, -, X12, ⟨Lc12, hQ12, l12, y12, z12⟩, st12⟩ := Jvm.LawKit.callS X11 hx (y := (⟨"com/example/cores_from_twigs/coresfromtwigs/constraints/ConstraintEqualsPinLaw", "ch", "(II)C"⟩ : MethodName)) hown (mvT hZ (hw _ (List.mem_of_getElem? (i := 26) rfl))) (mvT hZ (hw _ (List.mem_of_getElem? (i := 27) rfl))) (mvT hZ (hw _ (List.mem_of_getElem? (i := 2) rfl))) (mvT hZ (hw _ (List.mem_of_getElem? (i := 28) rfl))) (by decide) (backOf (W := 1) (rm5 l Z a0 hw [] p2 (2 : Int32)  h0 n0 Z0 ) hZ (hw _ (List.mem_of_getElem? (i := 28) rfl)) (hw _ (List.mem_of_getElem? (i := 2) rfl)) (by decide) (by decide)) (g := (mkF m 65 #[.val (.int p1), .val (.int p2), .val (.int (3 : Int32))] [(.int (2 : Int32)), (.int p2), (.int (own_c p1 (2 : Int32)))])) rfl (by rw [hml]; rfl) (argsL := [(.int p2), (.int (2 : Int32))]) (rest := [(.int (own_c p1 (2 : Int32)))]) (lenOf pd_2 rfl) rfl (by show 2 * 0 + _ ≤ _; exact Nat.le_of_eq rfl) (hb hby d12_65) (fun _ _ => ⟨rfl, e11, (by first | decide | exact Nat.le_of_ble_eq_true rfl), (by first | decide | exact Nat.le_of_ble_eq_true rfl)⟩)
          dsimp only [Pt.U, Pt.locs, Pt.cells, Pt.slots] at X12 l12 y12 z12 st12 hQ12
          obtain ⟨rfl, N12, e12⟩ := hQ12
          have X12 := own_sn X12 (k' := 0) (n' := 0) y12 z12
          have NF12 := own_fr l12 NF11 N12
          refine own_go st12 ?_
          show own_Gl p.tables e below F (T12.setTop (mkF m 68 #[.val (.int p1), .val (.int p2), .val (.int (3 : Int32))] [(.int (own_c p2 (2 : Int32))), (.int (own_c p1 (2 : Int32)))]))
          by_cases hc2 : own_c p1 (2 : Int32) = own_c p2 (2 : Int32)
          · refine own_go (fun _ k => XS.icmpYes X12.here hx rfl (pc0 := 68) (pc' := 73) rfl (hb hby d12_68) rfl (XT.ii_eq_t hc2) (by decide) (by decide) k) ?_
            show own_Gl p.tables e below F (T12.setTop (mkF m 73 #[.val (.int p1), .val (.int p2), .val (.int (3 : Int32))] []))
            refine own_go (fun _ k => XS.iconst X12.here hx rfl (hb hby d12_73) k) ?_
            show own_Gl p.tables e below F (T12.setTop (mkF m 74 #[.val (.int p1), .val (.int p2), .val (.int (3 : Int32))] [(.int (1 : Int32))]))
            obtain ⟨fs, hr, hrun, hended, hW, hsame⟩ := X12.leave (v := some (.int (1 : Int32))) (fun h => by rw [Bd.returns] at h; cases h)
            subst hF
            refine own_fin ?_ ⟨hrun, hended, _, _, rfl, ?_, ⟨_, rfl⟩, hW, hsame.mono (by first | decide | exact Nat.le_of_ble_eq_true rfl) (by first | decide | exact Nat.le_of_ble_eq_true rfl)⟩
            · exact own_retN X12 hx (t := .boolean) Bd.returns (by simp) rfl (hb hby d12_74) hr
            · show Q_rm12 Z _ _ h0 n0 _ T12.heap _
              rw [e12]
              exact ⟨by rw [own_same, own_cs3 hm, own_cs3 hm2, if_pos (by rw [hc0, hc1, hc2])], NF12, rfl⟩
          · refine own_go (fun _ k => XS.icmpNo X12.here hx rfl (hb hby d12_68) rfl (XT.ii_eq_f hc2) k) ?_
            show own_Gl p.tables e below F (T12.setTop (mkF m 71 #[.val (.int p1), .val (.int p2), .val (.int (3 : Int32))] []))
            refine own_go (fun _ k => XS.iconst X12.here hx rfl (hb hby d12_71) k) ?_
            show own_Gl p.tables e below F (T12.setTop (mkF m 72 #[.val (.int p1), .val (.int p2), .val (.int (3 : Int32))] [(.int (0 : Int32))]))
            obtain ⟨fs, hr, hrun, hended, hW, hsame⟩ := X12.leave (v := some (.int (0 : Int32))) (fun h => by rw [Bd.returns] at h; cases h)
            subst hF
            refine own_fin ?_ ⟨hrun, hended, _, _, rfl, ?_, ⟨_, rfl⟩, hW, hsame.mono (by first | decide | exact Nat.le_of_ble_eq_true rfl) (by first | decide | exact Nat.le_of_ble_eq_true rfl)⟩
            · exact own_retN X12 hx (t := .boolean) Bd.returns (by simp) rfl (hb hby d12_72) hr
            · show Q_rm12 Z _ _ h0 n0 _ T12.heap _
              rw [e12]
              exact ⟨by rw [own_same, own_cs3 hm, own_cs3 hm2, if_neg (fun q => hc2 (by simp at q; exact q.2.2))], NF12, rfl⟩
        · refine own_go (fun _ k => XS.icmpNo X10.here hx rfl (hb hby d12_48) rfl (XT.ii_eq_f hc1) k) ?_
          show own_Gl p.tables e below F (T10.setTop (mkF m 51 #[.val (.int p1), .val (.int p2), .val (.int (3 : Int32))] []))
          refine own_go (fun _ k => XS.iconst X10.here hx rfl (hb hby d12_51) k) ?_
          show own_Gl p.tables e below F (T10.setTop (mkF m 52 #[.val (.int p1), .val (.int p2), .val (.int (3 : Int32))] [(.int (0 : Int32))]))
          obtain ⟨fs, hr, hrun, hended, hW, hsame⟩ := X10.leave (v := some (.int (0 : Int32))) (fun h => by rw [Bd.returns] at h; cases h)
          subst hF
          refine own_fin ?_ ⟨hrun, hended, _, _, rfl, ?_, ⟨_, rfl⟩, hW, hsame.mono (by first | decide | exact Nat.le_of_ble_eq_true rfl) (by first | decide | exact Nat.le_of_ble_eq_true rfl)⟩
          · exact own_retN X10 hx (t := .boolean) Bd.returns (by simp) rfl (hb hby d12_52) hr
          · show Q_rm12 Z _ _ h0 n0 _ T10.heap _
            rw [e10]
            exact ⟨by rw [own_same, own_cs3 hm, own_cs3 hm2, if_neg (fun q => hc1 (by simp at q; exact q.2.1))], NF10, rfl⟩
      · refine own_go (fun _ k => XS.icmpNo X8.here hx rfl (hb hby d12_28) rfl (XT.ii_eq_f hc0) k) ?_
        show own_Gl p.tables e below F (T8.setTop (mkF m 31 #[.val (.int p1), .val (.int p2), .val (.int (3 : Int32))] []))
        refine own_go (fun _ k => XS.iconst X8.here hx rfl (hb hby d12_31) k) ?_
        show own_Gl p.tables e below F (T8.setTop (mkF m 32 #[.val (.int p1), .val (.int p2), .val (.int (3 : Int32))] [(.int (0 : Int32))]))
        obtain ⟨fs, hr, hrun, hended, hW, hsame⟩ := X8.leave (v := some (.int (0 : Int32))) (fun h => by rw [Bd.returns] at h; cases h)
        subst hF
        refine own_fin ?_ ⟨hrun, hended, _, _, rfl, ?_, ⟨_, rfl⟩, hW, hsame.mono (by first | decide | exact Nat.le_of_ble_eq_true rfl) (by first | decide | exact Nat.le_of_ble_eq_true rfl)⟩
        · exact own_retN X8 hx (t := .boolean) Bd.returns (by simp) rfl (hb hby d12_32) hr
        · show Q_rm12 Z _ _ h0 n0 _ T8.heap _
          rw [e8]
          exact ⟨by rw [own_same, own_cs3 hm, own_cs3 hm2, if_neg (fun q => hc0 (by simp at q; exact q.1))], NF8, rfl⟩
  · refine own_go (fun _ k => XS.icmpNo X0.here hx rfl (hb hby d12_8) rfl (XT.ii_eq_f hq) k) ?_
    show own_Gl p.tables e below F (s₁.setTop (mkF m 11 #[.val (.int p1), .val (.int p2), .val (.int (p1 &&& (3 : Int32)))] []))
    refine own_go (fun _ k => XS.iconst X0.here hx rfl (hb hby d12_11) k) ?_
    show own_Gl p.tables e below F (s₁.setTop (mkF m 12 #[.val (.int p1), .val (.int p2), .val (.int (p1 &&& (3 : Int32)))] [(.int (0 : Int32))]))
    obtain ⟨fs, hr, hrun, hended, hW, hsame⟩ := X0.leave (v := some (.int (0 : Int32))) (fun h => by rw [Bd.returns] at h; cases h)
    subst hF
    refine own_fin ?_ ⟨hrun, hended, _, _, rfl, ?_, ⟨_, rfl⟩, hW, hsame.mono (by first | decide | exact Nat.le_of_ble_eq_true rfl) (by first | decide | exact Nat.le_of_ble_eq_true rfl)⟩
    · exact own_retN X0 hx (t := .boolean) Bd.returns (by simp) rfl (hb hby d12_12) hr
    · show Q_rm12 Z _ _ h0 n0 _ s₁.heap _
      rw [e0]
      exact ⟨by rw [own_same, if_neg (own_cs_ne hq)], N0, rfl⟩
theorem ef_rmEn (m : MethodId) (x0 : Addr) : entryFrame m #[(.ref x0), .null] 3 = mkF m 0 #[.val (.ref x0), .val .null, .unset] [] := by first | (simp [entryFrame, mkF, argsToLocals, Value.category]; done) | rfl
theorem d13_0 : decode prog_6_method_6_code 0 = .ok (.aload_n 1, 1) := by decide +kernel
theorem d13_1 : decode prog_6_method_6_code 1 = .ok (.instanceof 18, 3) := by decide +kernel
theorem d13_4 : decode prog_6_method_6_code 4 = .ok (.ifCond .eq 11, 3) := by decide +kernel
theorem d13_15 : decode prog_6_method_6_code 15 = .ok (.iconst 0, 1) := by decide +kernel
theorem d13_16 : decode prog_6_method_6_code 16 = .ok (.ireturn, 1) := by decide +kernel
def Q_rmEn (Z : State) (a : Addr) (h0 : Heap) (n0 : Nat) (v : Option Value) (h : Heap) (L : List Loc) : Prop := v = some (.int 0) ∧ Fr n0 L ∧ h = h0
set_option maxRecDepth 65536 in
set_option maxHeartbeats 40000000 in
theorem rmEn (l : Launch) (Z : State) (a0 : Array Value) (hw : ∀ d ∈ tables_1, d.before a0 Z = true) (ws : List Jvm.Cond) (a : Addr) (h0 : Heap) (n0 : Nat) (Z0 : n0 ≤ h0.size) :
    MetFree l (⟨"com/example/cores_from_twigs/coresfromtwigs/constraints/Constraint", "equals", "(Ljava/lang/Object;)Z"⟩ : MethodName) (head1 (Jvm.Cond.code (⟨"com/example/cores_from_twigs/coresfromtwigs/constraints/Constraint", "equals", "(Ljava/lang/Object;)Z"⟩ : MethodName) prog_6_method_6_code 3 (some .boolean) :: ws) ({ frames := 0, cells := 0, slots := 0, locals := 0 } : Room)) (fun ag U => ag = #[(.ref a), .null] ∧ Z.Warmed39 U.vm ∧ U.heap = h0) (fun _ _ _ _ _ => True) (fun _ U o U' => ∃ v L, o = .returned v ∧ Q_rmEn Z a h0 n0 v U'.heap L ∧ FrameEnd U o U' L ({ frames := 0, cells := 0, slots := 0, locals := 0 } : Room).cells ({ frames := 0, cells := 0, slots := 0, locals := 0 } : Room).slots) := by
  refine MetFree.of_bodySF (plainFor_of_name pn_3) hisR ?_
  intro p e s m args below meth c s₁ Bd hml0 hP hK
  obtain ⟨rfl, hZ, hh⟩ := hP
  have hx := Bd.exec
  have hby := Bd.bytes
  have hml : c.maxLocals = 3 := hml0
  have hown : s.vm.findClass "com/example/cores_from_twigs/coresfromtwigs/constraints/Constraint" = some m.cls := findClass_of_methodNamed Bd.named
  have hnm := (name_of_methodNamed Bd.named Bd.method).1
  have X0 : Stand p l e ({ frames := 0, cells := 0, slots := 0, locals := 0 } : Room) s m #[(.ref a), .null] below meth c s₁ [] 0 0 := Stand.of_body Bd
  have e0 : s₁.heap = h0 := by rw [← hh, Bd.state]; rfl
  have N0 := Fr.nil n0
  refine own_start (ef_rmEn m a) ?_
  intro F hF
  show own_Gl p.tables e below F (s₁.setTop (mkF m 0 #[.val (.ref a), .val .null, .unset] []))
  refine own_go (fun _ k => XS.aloadN X0.here hx rfl (hb hby d13_0) rfl rfl k) ?_
  show own_Gl p.tables e below F (s₁.setTop (mkF m 1 #[.val (.ref a), .val .null, .unset] [.null]))
  refine own_go (fun _ k => (X0.instanceofNull hx (g := (mkF m 1 #[.val (.ref a), .val .null, .unset] [.null])) rfl rfl (hb hby d13_1) _) k) ?_
  show own_Gl p.tables e below F (s₁.setTop (mkF m 4 #[.val (.ref a), .val .null, .unset] [(.int (0 : Int32))]))
  refine own_go (fun _ k => XS.ifYes X0.here hx rfl (pc0 := 4) (pc' := 15) rfl (hb hby d13_4) rfl (XT.i0_eq_t (by decide)) (by decide) (by decide) k) ?_
  show own_Gl p.tables e below F (s₁.setTop (mkF m 15 #[.val (.ref a), .val .null, .unset] []))
  refine own_go (fun _ k => XS.iconst X0.here hx rfl (hb hby d13_15) k) ?_
  show own_Gl p.tables e below F (s₁.setTop (mkF m 16 #[.val (.ref a), .val .null, .unset] [(.int (0 : Int32))]))
  obtain ⟨fs, hr, hrun, hended, hW, hsame⟩ := X0.leave (v := some (.int (0 : Int32))) (fun h => by rw [Bd.returns] at h; cases h)
  subst hF
  refine own_fin ?_ ⟨hrun, hended, _, _, rfl, ?_, ⟨_, rfl⟩, hW, hsame.mono (by first | decide | exact Nat.le_of_ble_eq_true rfl) (by first | decide | exact Nat.le_of_ble_eq_true rfl)⟩
  · exact own_retN X0 hx (t := .boolean) Bd.returns (by simp) rfl (hb hby d13_16) hr
  · show Q_rmEn Z _ h0 n0 _ s₁.heap _
    rw [e0]
    exact ⟨rfl, N0, rfl⟩
theorem ef_rmEs (m : MethodId) (x0 : Addr) (x1 : Addr) : entryFrame m #[(.ref x0), (.ref x1)] 3 = mkF m 0 #[.val (.ref x0), .val (.ref x1), .unset] [] := by first | (simp [entryFrame, mkF, argsToLocals, Value.category]; done) | rfl
def Q_rmEs (Z : State) (a b : Addr) (h0 : Heap) (n0 : Nat) (v : Option Value) (h : Heap) (L : List Loc) : Prop := v = some (.int 0) ∧ Fr n0 L ∧ h = h0
set_option maxRecDepth 65536 in
set_option maxHeartbeats 40000000 in
theorem rmEs (l : Launch) (Z : State) (a0 : Array Value) (hw : ∀ d ∈ tables_1, d.before a0 Z = true) (ws : List Jvm.Cond) (a b : Addr) (h0 : Heap) (n0 : Nat) (Z0 : n0 ≤ h0.size) (EL : Exa Z h0 b "java/lang/String") :
    MetFree l (⟨"com/example/cores_from_twigs/coresfromtwigs/constraints/Constraint", "equals", "(Ljava/lang/Object;)Z"⟩ : MethodName) (head1 (Jvm.Cond.code (⟨"com/example/cores_from_twigs/coresfromtwigs/constraints/Constraint", "equals", "(Ljava/lang/Object;)Z"⟩ : MethodName) prog_6_method_6_code 3 (some .boolean) :: ws) ({ frames := 0, cells := 0, slots := 0, locals := 0 } : Room)) (fun ag U => ag = #[(.ref a), (.ref b)] ∧ Z.Warmed39 U.vm ∧ U.heap = h0) (fun _ _ _ _ _ => True) (fun _ U o U' => ∃ v L, o = .returned v ∧ Q_rmEs Z a b h0 n0 v U'.heap L ∧ FrameEnd U o U' L ({ frames := 0, cells := 0, slots := 0, locals := 0 } : Room).cells ({ frames := 0, cells := 0, slots := 0, locals := 0 } : Room).slots) := by
  refine MetFree.of_bodySF (plainFor_of_name pn_3) hisR ?_
  intro p e s m args below meth c s₁ Bd hml0 hP hK
  obtain ⟨rfl, hZ, hh⟩ := hP
  have hx := Bd.exec
  have hby := Bd.bytes
  have hml : c.maxLocals = 3 := hml0
  have hown : s.vm.findClass "com/example/cores_from_twigs/coresfromtwigs/constraints/Constraint" = some m.cls := findClass_of_methodNamed Bd.named
  have hnm := (name_of_methodNamed Bd.named Bd.method).1
  have X0 : Stand p l e ({ frames := 0, cells := 0, slots := 0, locals := 0 } : Room) s m #[(.ref a), (.ref b)] below meth c s₁ [] 0 0 := Stand.of_body Bd
  have e0 : s₁.heap = h0 := by rw [← hh, Bd.state]; rfl
  have N0 := Fr.nil n0
  refine own_start (ef_rmEs m a b) ?_
  intro F hF
  show own_Gl p.tables e below F (s₁.setTop (mkF m 0 #[.val (.ref a), .val (.ref b), .unset] []))
  refine own_go (fun _ k => XS.aloadN X0.here hx rfl (hb hby d13_0) rfl rfl k) ?_
  show own_Gl p.tables e below F (s₁.setTop (mkF m 1 #[.val (.ref a), .val (.ref b), .unset] [(.ref b)]))
  have hs0 : s.heap = h0 := hh
  have EL' : Exa Z s.heap b "java/lang/String" := by rw [hs0]; exact EL
  have IL' : Ins Z s.heap b "com/example/cores_from_twigs/coresfromtwigs/constraints/Constraint" false := own_notK EL' (hw _ (List.mem_of_getElem? (i := 89) rfl)) (hw _ (List.mem_of_getElem? (i := 90) rfl)) (hw _ (List.mem_of_getElem? (i := 47) rfl)) (by decide)
  obtain ⟨T1, X1, e1, st1⟩ := instN X0 hx hZ hown (hw _ (List.mem_of_getElem? (i := 77) rfl)) e0 IL' EL' (g := (mkF m 1 #[.val (.ref a), .val (.ref b), .unset] [(.ref b)])) rfl rfl (hb hby d13_1)
  refine own_go st1 ?_
  show own_Gl p.tables e below F (T1.setTop (mkF m 4 #[.val (.ref a), .val (.ref b), .unset] [(.int (0 : Int32))]))
  refine own_go (fun _ k => XS.ifYes X1.here hx rfl (pc0 := 4) (pc' := 15) rfl (hb hby d13_4) rfl (XT.i0_eq_t (by decide)) (by decide) (by decide) k) ?_
  show own_Gl p.tables e below F (T1.setTop (mkF m 15 #[.val (.ref a), .val (.ref b), .unset] []))
  refine own_go (fun _ k => XS.iconst X1.here hx rfl (hb hby d13_15) k) ?_
  show own_Gl p.tables e below F (T1.setTop (mkF m 16 #[.val (.ref a), .val (.ref b), .unset] [(.int (0 : Int32))]))
  obtain ⟨fs, hr, hrun, hended, hW, hsame⟩ := X1.leave (v := some (.int (0 : Int32))) (fun h => by rw [Bd.returns] at h; cases h)
  subst hF
  refine own_fin ?_ ⟨hrun, hended, _, _, rfl, ?_, ⟨_, rfl⟩, hW, hsame.mono (by first | decide | exact Nat.le_of_ble_eq_true rfl) (by first | decide | exact Nat.le_of_ble_eq_true rfl)⟩
  · exact own_retN X1 hx (t := .boolean) Bd.returns (by simp) rfl (hb hby d13_16) hr
  · show Q_rmEs Z _ _ h0 n0 _ T1.heap _
    rw [e1]
    exact ⟨rfl, N0, rfl⟩
theorem ef_rmEq (m : MethodId) (x0 : Addr) (x1 : Addr) : entryFrame m #[(.ref x0), (.ref x1)] 3 = mkF m 0 #[.val (.ref x0), .val (.ref x1), .unset] [] := by first | (simp [entryFrame, mkF, argsToLocals, Value.category]; done) | rfl
theorem d13_7 : decode prog_6_method_6_code 7 = .ok (.aload_n 1, 1) := by decide +kernel
theorem d13_8 : decode prog_6_method_6_code 8 = .ok (.checkcast 18, 3) := by decide +kernel
theorem d13_11 : decode prog_6_method_6_code 11 = .ok (.astore_n 2, 1) := by decide +kernel
theorem d13_12 : decode prog_6_method_6_code 12 = .ok (.goto 5, 3) := by decide +kernel
theorem d13_17 : decode prog_6_method_6_code 17 = .ok (.aload_n 0, 1) := by decide +kernel
theorem d13_18 : decode prog_6_method_6_code 18 = .ok (.getfield 17, 3) := by decide +kernel
theorem d13_21 : decode prog_6_method_6_code 21 = .ok (.aload_n 2, 1) := by decide +kernel
theorem d13_22 : decode prog_6_method_6_code 22 = .ok (.getfield 17, 3) := by decide +kernel
theorem d13_25 : decode prog_6_method_6_code 25 = .ok (.invokevirtual 58, 3) := by decide +kernel
theorem pd_4 : parseMethodDescriptor "(Ljava/lang/Object;)Z" = some ⟨[(.object "java/lang/Object")], some .boolean⟩ := by decide +kernel
theorem d13_28 : decode prog_6_method_6_code 28 = .ok (.ifCond .eq 32, 3) := by decide +kernel
theorem d13_31 : decode prog_6_method_6_code 31 = .ok (.aload_n 0, 1) := by decide +kernel
theorem d13_32 : decode prog_6_method_6_code 32 = .ok (.getfield 26, 3) := by decide +kernel
theorem d13_35 : decode prog_6_method_6_code 35 = .ok (.aload_n 2, 1) := by decide +kernel
theorem d13_36 : decode prog_6_method_6_code 36 = .ok (.getfield 26, 3) := by decide +kernel
theorem d13_39 : decode prog_6_method_6_code 39 = .ok (.if_acmp .ne 21, 3) := by decide +kernel
theorem d13_42 : decode prog_6_method_6_code 42 = .ok (.aload_n 0, 1) := by decide +kernel
theorem d13_43 : decode prog_6_method_6_code 43 = .ok (.getfield 31, 3) := by decide +kernel
theorem d13_46 : decode prog_6_method_6_code 46 = .ok (.aload_n 2, 1) := by decide +kernel
theorem d13_47 : decode prog_6_method_6_code 47 = .ok (.getfield 31, 3) := by decide +kernel
theorem d13_50 : decode prog_6_method_6_code 50 = .ok (.invokevirtual 58, 3) := by decide +kernel
theorem d13_53 : decode prog_6_method_6_code 53 = .ok (.ifCond .eq 7, 3) := by decide +kernel
theorem d13_56 : decode prog_6_method_6_code 56 = .ok (.iconst 1, 1) := by decide +kernel
theorem d13_57 : decode prog_6_method_6_code 57 = .ok (.goto 4, 3) := by decide +kernel
theorem d13_61 : decode prog_6_method_6_code 61 = .ok (.ireturn, 1) := by decide +kernel
theorem d13_60 : decode prog_6_method_6_code 60 = .ok (.iconst 0, 1) := by decide +kernel
def Q_rmEq (Z : State) (a b s1 s2 r1 r2 o1 o2 : Addr) (A1 A2 B1 B2 : List Int32) (zc : Int32) (h0 : Heap) (n0 : Nat) (v : Option Value) (h : Heap) (L : List Loc) : Prop := v = some (.int (own_e A1 A2 r1 r2 B1 B2)) ∧ Fr n0 L ∧ h = h0
set_option maxRecDepth 65536 in
set_option maxHeartbeats 40000000 in
theorem rmEq (l : Launch) (Z : State) (a0 : Array Value) (hw : ∀ d ∈ tables_1, d.before a0 Z = true) (ws : List Jvm.Cond) (a b s1 s2 r1 r2 o1 o2 : Addr) (A1 A2 B1 B2 : List Int32) (zc : Int32) (h0 : Heap) (n0 : Nat) (Z0 : n0 ≤ h0.size) (OO : Old Z n0 h0) (O2 : Sta Z Z.heap "java/lang/String" "COMPACT_STRINGS" "Z" (.int zc)) (P5 : ¬ zc = 0) (EB : Exa Z h0 b "com/example/cores_from_twigs/coresfromtwigs/constraints/Constraint") (Fs1 : Fld Z h0 a "com/example/cores_from_twigs/coresfromtwigs/constraints/Constraint" "subject" "Ljava/lang/String;" (.ref s1)) (Fr1 : Fld Z h0 a "com/example/cores_from_twigs/coresfromtwigs/constraints/Constraint" "relation" "Lcom/example/cores_from_twigs/coresfromtwigs/constraints/Relation;" (.ref r1)) (Fo1 : Fld Z h0 a "com/example/cores_from_twigs/coresfromtwigs/constraints/Constraint" "object" "Ljava/lang/String;" (.ref o1)) (Fs2 : Fld Z h0 b "com/example/cores_from_twigs/coresfromtwigs/constraints/Constraint" "subject" "Ljava/lang/String;" (.ref s2)) (Fr2 : Fld Z h0 b "com/example/cores_from_twigs/coresfromtwigs/constraints/Constraint" "relation" "Lcom/example/cores_from_twigs/coresfromtwigs/constraints/Relation;" (.ref r2)) (Fo2 : Fld Z h0 b "com/example/cores_from_twigs/coresfromtwigs/constraints/Constraint" "object" "Ljava/lang/String;" (.ref o2)) (TS1 : own_S Z h0 s1 A1) (TS2 : own_S Z h0 s2 A2) (TO1 : own_S Z h0 o1 B1) (TO2 : own_S Z h0 o2 B2) (kA1 : own_ok A1) (kA2 : own_ok A2) (kB1 : own_ok B1) (kB2 : own_ok B2) :
    MetFree l (⟨"com/example/cores_from_twigs/coresfromtwigs/constraints/Constraint", "equals", "(Ljava/lang/Object;)Z"⟩ : MethodName) (head1 (Jvm.Cond.code (⟨"com/example/cores_from_twigs/coresfromtwigs/constraints/Constraint", "equals", "(Ljava/lang/Object;)Z"⟩ : MethodName) prog_6_method_6_code 3 (some .boolean) :: ws) ({ frames := 2, cells := 0, slots := 0, locals := 28 } : Room)) (fun ag U => ag = #[(.ref a), (.ref b)] ∧ Z.Warmed39 U.vm ∧ U.heap = h0) (fun _ _ _ _ _ => True) (fun _ U o U' => ∃ v L, o = .returned v ∧ Q_rmEq Z a b s1 s2 r1 r2 o1 o2 A1 A2 B1 B2 zc h0 n0 v U'.heap L ∧ FrameEnd U o U' L ({ frames := 2, cells := 0, slots := 0, locals := 28 } : Room).cells ({ frames := 2, cells := 0, slots := 0, locals := 28 } : Room).slots) := by
  refine MetFree.of_bodySF (plainFor_of_name pn_3) hisR ?_
  intro p e s m args below meth c s₁ Bd hml0 hP hK
  obtain ⟨rfl, hZ, hh⟩ := hP
  have hx := Bd.exec
  have hby := Bd.bytes
  have hml : c.maxLocals = 3 := hml0
  have hown : s.vm.findClass "com/example/cores_from_twigs/coresfromtwigs/constraints/Constraint" = some m.cls := findClass_of_methodNamed Bd.named
  have hnm := (name_of_methodNamed Bd.named Bd.method).1
  have X0 : Stand p l e ({ frames := 2, cells := 0, slots := 0, locals := 28 } : Room) s m #[(.ref a), (.ref b)] below meth c s₁ [] 0 0 := Stand.of_body Bd
  have e0 : s₁.heap = h0 := by rw [← hh, Bd.state]; rfl
  have N0 := Fr.nil n0
  refine own_start (ef_rmEq m a b) ?_
  intro F hF
  show own_Gl p.tables e below F (s₁.setTop (mkF m 0 #[.val (.ref a), .val (.ref b), .unset] []))
  have heq : ∀ d ∈ StrChars.Road.wordsEq, d.before a0 Z = true := fun d hd => hw d ((by decide +kernel : ∀ d ∈ StrChars.Road.wordsEq, d ∈ tables_1) d hd)
  obtain ⟨eS1, cS1, tS1, kS1, vS1, yS1⟩ := TS1
  obtain ⟨eS2, cS2, tS2, kS2, vS2, yS2⟩ := TS2
  obtain ⟨eO1, cO1, tO1, kO1, vO1, yO1⟩ := TO1
  obtain ⟨eO2, cO2, tO2, kO2, vO2, yO2⟩ := TO2
  refine own_go (fun _ k => XS.aloadN X0.here hx rfl (hb hby d13_0) rfl rfl k) ?_
  show own_Gl p.tables e below F (s₁.setTop (mkF m 1 #[.val (.ref a), .val (.ref b), .unset] [(.ref b)]))
  obtain ⟨T1, X1, e1, st1⟩ := instY X0 hx hZ hown (hw _ (List.mem_of_getElem? (i := 77) rfl)) e0 (Ins.self EB) (g := (mkF m 1 #[.val (.ref a), .val (.ref b), .unset] [(.ref b)])) rfl rfl (hb hby d13_1)
  refine own_go st1 ?_
  show own_Gl p.tables e below F (T1.setTop (mkF m 4 #[.val (.ref a), .val (.ref b), .unset] [(.int (1 : Int32))]))
  refine own_go (fun _ k => XS.ifNo X1.here hx rfl (hb hby d13_4) rfl (XT.i0_eq_f (by decide)) k) ?_
  show own_Gl p.tables e below F (T1.setTop (mkF m 7 #[.val (.ref a), .val (.ref b), .unset] []))
  refine own_go (fun _ k => XS.aloadN X1.here hx rfl (hb hby d13_7) rfl rfl k) ?_
  show own_Gl p.tables e below F (T1.setTop (mkF m 8 #[.val (.ref a), .val (.ref b), .unset] [(.ref b)]))
  obtain ⟨T2, X2, e2, st2⟩ := castY X1 hx hZ hown (hw _ (List.mem_of_getElem? (i := 77) rfl)) e1 (Ins.self EB) (g := (mkF m 8 #[.val (.ref a), .val (.ref b), .unset] [(.ref b)])) rfl rfl (hb hby d13_8)
  refine own_go st2 ?_
  show own_Gl p.tables e below F (T2.setTop (mkF m 11 #[.val (.ref a), .val (.ref b), .unset] [(.ref b)]))
  refine own_go (fun _ k => XS.astoreN X2.here hx rfl (hb hby d13_11) rfl rfl (l' := #[.val (.ref a), .val (.ref b), .val (.ref b)]) rfl k) ?_
  show own_Gl p.tables e below F (T2.setTop (mkF m 12 #[.val (.ref a), .val (.ref b), .val (.ref b)] []))
  refine own_go (fun _ k => XS.goto X2.here hx rfl (pc0 := 12) (pc' := 17) rfl (hb hby d13_12) (by decide) (by decide) k) ?_
  show own_Gl p.tables e below F (T2.setTop (mkF m 17 #[.val (.ref a), .val (.ref b), .val (.ref b)] []))
  refine own_go (fun _ k => XS.aloadN X2.here hx rfl (hb hby d13_17) rfl rfl k) ?_
  show own_Gl p.tables e below F (T2.setTop (mkF m 18 #[.val (.ref a), .val (.ref b), .val (.ref b)] [(.ref a)]))
  obtain ⟨T3, X3, e3, st3⟩ := getF X2 hx hZ hown (host := "") (Or.inl (hw _ (List.mem_of_getElem? (i := 59) rfl))) Via.refl e2 Fs1 (g := (mkF m 18 #[.val (.ref a), .val (.ref b), .val (.ref b)] [(.ref a)])) rfl rfl (hb hby d13_18)
  refine own_go st3 ?_
  show own_Gl p.tables e below F (T3.setTop (mkF m 21 #[.val (.ref a), .val (.ref b), .val (.ref b)] [(.ref s1)]))
  refine own_go (fun _ k => XS.aloadN X3.here hx rfl (hb hby d13_21) rfl rfl k) ?_
  show own_Gl p.tables e below F (T3.setTop (mkF m 22 #[.val (.ref a), .val (.ref b), .val (.ref b)] [(.ref b), (.ref s1)]))
  obtain ⟨T4, X4, e4, st4⟩ := getF X3 hx hZ hown (host := "") (Or.inl (hw _ (List.mem_of_getElem? (i := 59) rfl))) Via.refl e3 Fs2 (g := (mkF m 22 #[.val (.ref a), .val (.ref b), .val (.ref b)] [(.ref b), (.ref s1)])) rfl rfl (hb hby d13_22)
  refine own_go st4 ?_
  show own_Gl p.tables e below F (T4.setTop (mkF m 25 #[.val (.ref a), .val (.ref b), .val (.ref b)] [(.ref s2), (.ref s1)]))
  obtain ⟨cq5, kq5, q5a, q5b, q5c⟩ := isOf hZ e4 eS1
  obtain ⟨_, _, ⟨T5, L5, k5, n5⟩, -, X5, ⟨Lc5, hQ5, l5, y5, z5⟩, st5⟩ := X4.virtualBack hx (y := (⟨"java/lang/String", "equals", "(Ljava/lang/Object;)Z"⟩ : MethodName)) (z := (⟨"java/lang/String", "equals", "(Ljava/lang/Object;)Z"⟩ : MethodName)) hown (mvT hZ (hw _ (List.mem_of_getElem? (i := 79) rfl))) (mvT hZ (hw _ (List.mem_of_getElem? (i := 80) rfl))) (notFace_of_selects (args := #[]) (mvT hZ (hw _ (List.mem_of_getElem? (i := 82) rfl)))) (mvT hZ (hw _ (List.mem_of_getElem? (i := 82) rfl))) (mvT hZ (hw _ (List.mem_of_getElem? (i := 81) rfl))) (by decide) (StrChars.Road.eqW (W := 0) hZ heq (kI := 4) (hw _ (List.mem_of_getElem? (i := 5) rfl)) eS1 vS1 cS1 yS1 (StrChars.Road.codOf rfl (fun c hc => (kA1.1 c hc).2)) (own_up kA1) kA1.2 eS2 vS2 cS2 yS2 (StrChars.Road.codOf rfl (fun c hc => (kA2.1 c hc).2)) (own_up kA2) kA2.2 (O2.ext OO.2) P5 (by decide) (by decide)) q5a q5c (g := (mkF m 25 #[.val (.ref a), .val (.ref b), .val (.ref b)] [(.ref s2), (.ref s1)])) rfl (by rw [hml]; rfl) (Steps.refl _) (argsL := [(.ref s2)]) (rest := []) (lenOf pd_4 rfl) rfl (by show 2 * 0 + _ ≤ _; exact Nat.le_of_eq rfl) (hb hby d13_25) (fun _ _ => ⟨rfl, e4, (by first | decide | exact Nat.le_of_ble_eq_true rfl), (by first | decide | exact Nat.le_of_ble_eq_true rfl)⟩)
  dsimp only [Pt.U, Pt.locs, Pt.cells, Pt.slots] at X5 l5 y5 z5 st5 hQ5
  obtain ⟨hv5, hl5, e5⟩ := hQ5
  have X5 := own_sn X5 (k' := 0) (n' := 0) y5 z5
  have N5 := own_frn (n0 := n0) hl5
  have NF5 := own_fr l5 N0 N5
  rcases hv5 with ⟨rfl, h1⟩ | ⟨rfl, h1⟩
  · refine own_go (fun _ k => st5.trans k) ?_
    show own_Gl p.tables e below F (T5.setTop (mkF m 28 #[.val (.ref a), .val (.ref b), .val (.ref b)] [(.int (1 : Int32))]))
    refine own_go (fun _ k => XS.ifNo X5.here hx rfl (hb hby d13_28) rfl (XT.i0_eq_f (by decide)) k) ?_
    show own_Gl p.tables e below F (T5.setTop (mkF m 31 #[.val (.ref a), .val (.ref b), .val (.ref b)] []))
    refine own_go (fun _ k => XS.aloadN X5.here hx rfl (hb hby d13_31) rfl rfl k) ?_
    show own_Gl p.tables e below F (T5.setTop (mkF m 32 #[.val (.ref a), .val (.ref b), .val (.ref b)] [(.ref a)]))
    obtain ⟨T6, X6, e6, st6⟩ := getF X5 hx hZ hown (host := "") (Or.inl (hw _ (List.mem_of_getElem? (i := 64) rfl))) Via.refl e5 Fr1 (g := (mkF m 32 #[.val (.ref a), .val (.ref b), .val (.ref b)] [(.ref a)])) rfl rfl (hb hby d13_32)
    refine own_go st6 ?_
    show own_Gl p.tables e below F (T6.setTop (mkF m 35 #[.val (.ref a), .val (.ref b), .val (.ref b)] [(.ref r1)]))
    refine own_go (fun _ k => XS.aloadN X6.here hx rfl (hb hby d13_35) rfl rfl k) ?_
    show own_Gl p.tables e below F (T6.setTop (mkF m 36 #[.val (.ref a), .val (.ref b), .val (.ref b)] [(.ref b), (.ref r1)]))
    obtain ⟨T7, X7, e7, st7⟩ := getF X6 hx hZ hown (host := "") (Or.inl (hw _ (List.mem_of_getElem? (i := 64) rfl))) Via.refl e6 Fr2 (g := (mkF m 36 #[.val (.ref a), .val (.ref b), .val (.ref b)] [(.ref b), (.ref r1)])) rfl rfl (hb hby d13_36)
    refine own_go st7 ?_
    show own_Gl p.tables e below F (T7.setTop (mkF m 39 #[.val (.ref a), .val (.ref b), .val (.ref b)] [(.ref r2), (.ref r1)]))
    by_cases hq0 : r1 = r2
    · refine own_go (fun _ k => Jvm.RoadKit.acmp (g := (mkF m 39 #[.val (.ref a), .val (.ref b), .val (.ref b)] [(.ref r2), (.ref r1)])) X7 hx rfl rfl rfl (pc0 := 39) (pc' := 42) (same := true) rfl (hb hby d13_39) rfl (decide_eq_true (congrArg Value.ref hq0)) (by decide) (by decide) k) ?_
      show own_Gl p.tables e below F (T7.setTop (mkF m 42 #[.val (.ref a), .val (.ref b), .val (.ref b)] []))
      refine own_go (fun _ k => XS.aloadN X7.here hx rfl (hb hby d13_42) rfl rfl k) ?_
      show own_Gl p.tables e below F (T7.setTop (mkF m 43 #[.val (.ref a), .val (.ref b), .val (.ref b)] [(.ref a)]))
      obtain ⟨T8, X8, e8, st8⟩ := getF X7 hx hZ hown (host := "") (Or.inl (hw _ (List.mem_of_getElem? (i := 67) rfl))) Via.refl e7 Fo1 (g := (mkF m 43 #[.val (.ref a), .val (.ref b), .val (.ref b)] [(.ref a)])) rfl rfl (hb hby d13_43)
      refine own_go st8 ?_
      show own_Gl p.tables e below F (T8.setTop (mkF m 46 #[.val (.ref a), .val (.ref b), .val (.ref b)] [(.ref o1)]))
      refine own_go (fun _ k => XS.aloadN X8.here hx rfl (hb hby d13_46) rfl rfl k) ?_
      show own_Gl p.tables e below F (T8.setTop (mkF m 47 #[.val (.ref a), .val (.ref b), .val (.ref b)] [(.ref b), (.ref o1)]))
      obtain ⟨T9, X9, e9, st9⟩ := getF X8 hx hZ hown (host := "") (Or.inl (hw _ (List.mem_of_getElem? (i := 67) rfl))) Via.refl e8 Fo2 (g := (mkF m 47 #[.val (.ref a), .val (.ref b), .val (.ref b)] [(.ref b), (.ref o1)])) rfl rfl (hb hby d13_47)
      refine own_go st9 ?_
      show own_Gl p.tables e below F (T9.setTop (mkF m 50 #[.val (.ref a), .val (.ref b), .val (.ref b)] [(.ref o2), (.ref o1)]))
      obtain ⟨cq10, kq10, q10a, q10b, q10c⟩ := isOf hZ e9 eO1
      obtain ⟨_, _, ⟨T10, L10, k10, n10⟩, -, X10, ⟨Lc10, hQ10, l10, y10, z10⟩, st10⟩ := X9.virtualBack hx (y := (⟨"java/lang/String", "equals", "(Ljava/lang/Object;)Z"⟩ : MethodName)) (z := (⟨"java/lang/String", "equals", "(Ljava/lang/Object;)Z"⟩ : MethodName)) hown (mvT hZ (hw _ (List.mem_of_getElem? (i := 79) rfl))) (mvT hZ (hw _ (List.mem_of_getElem? (i := 80) rfl))) (notFace_of_selects (args := #[]) (mvT hZ (hw _ (List.mem_of_getElem? (i := 82) rfl)))) (mvT hZ (hw _ (List.mem_of_getElem? (i := 82) rfl))) (mvT hZ (hw _ (List.mem_of_getElem? (i := 81) rfl))) (by decide) (StrChars.Road.eqW (W := 0) hZ heq (kI := 4) (hw _ (List.mem_of_getElem? (i := 5) rfl)) eO1 vO1 cO1 yO1 (StrChars.Road.codOf rfl (fun c hc => (kB1.1 c hc).2)) (own_up kB1) kB1.2 eO2 vO2 cO2 yO2 (StrChars.Road.codOf rfl (fun c hc => (kB2.1 c hc).2)) (own_up kB2) kB2.2 (O2.ext OO.2) P5 (by decide) (by decide)) q10a q10c (g := (mkF m 50 #[.val (.ref a), .val (.ref b), .val (.ref b)] [(.ref o2), (.ref o1)])) rfl (by rw [hml]; rfl) (Steps.refl _) (argsL := [(.ref o2)]) (rest := []) (lenOf pd_4 rfl) rfl (by show 2 * 0 + _ ≤ _; exact Nat.le_of_eq rfl) (hb hby d13_50) (fun _ _ => ⟨rfl, e9, (by first | decide | exact Nat.le_of_ble_eq_true rfl), (by first | decide | exact Nat.le_of_ble_eq_true rfl)⟩)
      dsimp only [Pt.U, Pt.locs, Pt.cells, Pt.slots] at X10 l10 y10 z10 st10 hQ10
      obtain ⟨hv10, hl10, e10⟩ := hQ10
      have X10 := own_sn X10 (k' := 0) (n' := 0) y10 z10
      have N10 := own_frn (n0 := n0) hl10
      have NF10 := own_fr l10 NF5 N10
      rcases hv10 with ⟨rfl, h2⟩ | ⟨rfl, h2⟩
      · refine own_go (fun _ k => st10.trans k) ?_
        show own_Gl p.tables e below F (T10.setTop (mkF m 53 #[.val (.ref a), .val (.ref b), .val (.ref b)] [(.int (1 : Int32))]))
        refine own_go (fun _ k => XS.ifNo X10.here hx rfl (hb hby d13_53) rfl (XT.i0_eq_f (by decide)) k) ?_
        show own_Gl p.tables e below F (T10.setTop (mkF m 56 #[.val (.ref a), .val (.ref b), .val (.ref b)] []))
        refine own_go (fun _ k => XS.iconst X10.here hx rfl (hb hby d13_56) k) ?_
        show own_Gl p.tables e below F (T10.setTop (mkF m 57 #[.val (.ref a), .val (.ref b), .val (.ref b)] [(.int (1 : Int32))]))
        refine own_go (fun _ k => XS.goto X10.here hx rfl (pc0 := 57) (pc' := 61) rfl (hb hby d13_57) (by decide) (by decide) k) ?_
        show own_Gl p.tables e below F (T10.setTop (mkF m 61 #[.val (.ref a), .val (.ref b), .val (.ref b)] [(.int (1 : Int32))]))
        obtain ⟨fs, hr, hrun, hended, hW, hsame⟩ := X10.leave (v := some (.int (1 : Int32))) (fun h => by rw [Bd.returns] at h; cases h)
        subst hF
        refine own_fin ?_ ⟨hrun, hended, _, _, rfl, ?_, ⟨_, rfl⟩, hW, hsame.mono (by first | decide | exact Nat.le_of_ble_eq_true rfl) (by first | decide | exact Nat.le_of_ble_eq_true rfl)⟩
        · exact own_retN X10 hx (t := .boolean) Bd.returns (by simp) rfl (hb hby d13_61) hr
        · show Q_rmEq Z _ _ _ _ _ _ _ _ _ _ _ _ _ h0 n0 _ T10.heap _
          rw [e10]
          exact ⟨by rw [own_e, if_pos h1, if_pos hq0, if_pos h2], NF10, rfl⟩
      · refine own_go (fun _ k => st10.trans k) ?_
        show own_Gl p.tables e below F (T10.setTop (mkF m 53 #[.val (.ref a), .val (.ref b), .val (.ref b)] [(.int (0 : Int32))]))
        refine own_go (fun _ k => XS.ifYes X10.here hx rfl (pc0 := 53) (pc' := 60) rfl (hb hby d13_53) rfl (XT.i0_eq_t rfl) (by decide) (by decide) k) ?_
        show own_Gl p.tables e below F (T10.setTop (mkF m 60 #[.val (.ref a), .val (.ref b), .val (.ref b)] []))
        refine own_go (fun _ k => XS.iconst X10.here hx rfl (hb hby d13_60) k) ?_
        show own_Gl p.tables e below F (T10.setTop (mkF m 61 #[.val (.ref a), .val (.ref b), .val (.ref b)] [(.int (0 : Int32))]))
        obtain ⟨fs, hr, hrun, hended, hW, hsame⟩ := X10.leave (v := some (.int (0 : Int32))) (fun h => by rw [Bd.returns] at h; cases h)
        subst hF
        refine own_fin ?_ ⟨hrun, hended, _, _, rfl, ?_, ⟨_, rfl⟩, hW, hsame.mono (by first | decide | exact Nat.le_of_ble_eq_true rfl) (by first | decide | exact Nat.le_of_ble_eq_true rfl)⟩
        · exact own_retN X10 hx (t := .boolean) Bd.returns (by simp) rfl (hb hby d13_61) hr
        · show Q_rmEq Z _ _ _ _ _ _ _ _ _ _ _ _ _ h0 n0 _ T10.heap _
          rw [e10]
          exact ⟨by rw [own_e, if_pos h1, if_pos hq0, if_neg h2], NF10, rfl⟩
    · refine own_go (fun _ k => Jvm.RoadKit.acmp (g := (mkF m 39 #[.val (.ref a), .val (.ref b), .val (.ref b)] [(.ref r2), (.ref r1)])) X7 hx rfl rfl rfl (pc0 := 39) (pc' := 60) (same := false) rfl (hb hby d13_39) rfl (decide_eq_false fun q => hq0 (Value.ref.inj q)) (by decide) (by decide) k) ?_
      show own_Gl p.tables e below F (T7.setTop (mkF m 60 #[.val (.ref a), .val (.ref b), .val (.ref b)] []))
      refine own_go (fun _ k => XS.iconst X7.here hx rfl (hb hby d13_60) k) ?_
      show own_Gl p.tables e below F (T7.setTop (mkF m 61 #[.val (.ref a), .val (.ref b), .val (.ref b)] [(.int (0 : Int32))]))
      obtain ⟨fs, hr, hrun, hended, hW, hsame⟩ := X7.leave (v := some (.int (0 : Int32))) (fun h => by rw [Bd.returns] at h; cases h)
      subst hF
      refine own_fin ?_ ⟨hrun, hended, _, _, rfl, ?_, ⟨_, rfl⟩, hW, hsame.mono (by first | decide | exact Nat.le_of_ble_eq_true rfl) (by first | decide | exact Nat.le_of_ble_eq_true rfl)⟩
      · exact own_retN X7 hx (t := .boolean) Bd.returns (by simp) rfl (hb hby d13_61) hr
      · show Q_rmEq Z _ _ _ _ _ _ _ _ _ _ _ _ _ h0 n0 _ T7.heap _
        rw [e7]
        exact ⟨by rw [own_e, if_pos h1, if_neg hq0], NF5, rfl⟩
  · refine own_go (fun _ k => st5.trans k) ?_
    show own_Gl p.tables e below F (T5.setTop (mkF m 28 #[.val (.ref a), .val (.ref b), .val (.ref b)] [(.int (0 : Int32))]))
    refine own_go (fun _ k => XS.ifYes X5.here hx rfl (pc0 := 28) (pc' := 60) rfl (hb hby d13_28) rfl (XT.i0_eq_t rfl) (by decide) (by decide) k) ?_
    show own_Gl p.tables e below F (T5.setTop (mkF m 60 #[.val (.ref a), .val (.ref b), .val (.ref b)] []))
    refine own_go (fun _ k => XS.iconst X5.here hx rfl (hb hby d13_60) k) ?_
    show own_Gl p.tables e below F (T5.setTop (mkF m 61 #[.val (.ref a), .val (.ref b), .val (.ref b)] [(.int (0 : Int32))]))
    obtain ⟨fs, hr, hrun, hended, hW, hsame⟩ := X5.leave (v := some (.int (0 : Int32))) (fun h => by rw [Bd.returns] at h; cases h)
    subst hF
    refine own_fin ?_ ⟨hrun, hended, _, _, rfl, ?_, ⟨_, rfl⟩, hW, hsame.mono (by first | decide | exact Nat.le_of_ble_eq_true rfl) (by first | decide | exact Nat.le_of_ble_eq_true rfl)⟩
    · exact own_retN X5 hx (t := .boolean) Bd.returns (by simp) rfl (hb hby d13_61) hr
    · show Q_rmEq Z _ _ _ _ _ _ _ _ _ _ _ _ _ h0 n0 _ T5.heap _
      rw [e5]
      exact ⟨by rw [own_e, if_neg h1], NF5, rfl⟩
theorem ef_rm0 (m : MethodId) (x0 : Int32) (x1 : Int32) (x2 : Int32) (x3 : Int32) (x4 : Int32) (x5 : Int32) : entryFrame m #[(.int x0), (.int x1), (.int x2), (.int x3), (.int x4), (.int x5)] maxLocals = mkF m 0 #[.val (.int x0), .val (.int x1), .val (.int x2), .val (.int x3), .val (.int x4), .val (.int x5), .unset, .unset, .unset, .unset, .unset, .unset, .unset, .unset, .unset, .unset, .unset, .unset, .unset, .unset, .unset] [] := by first | (simp [entryFrame, mkF, argsToLocals, Value.category, maxLocals]; done) | rfl
theorem pd_5 : parseMethodDescriptor "(I)Ljava/lang/String;" = some ⟨[.int], some (.object "java/lang/String")⟩ := by decide +kernel
theorem pd_6 : parseMethodDescriptor "(I)Lcom/example/cores_from_twigs/coresfromtwigs/constraints/Relation;" = some ⟨[.int], some (.object "com/example/cores_from_twigs/coresfromtwigs/constraints/Relation")⟩ := by decide +kernel
theorem pd_7 : parseMethodDescriptor "(Ljava/lang/String;Lcom/example/cores_from_twigs/coresfromtwigs/constraints/Relation;Ljava/lang/String;)V" = some ⟨[(.object "java/lang/String"), (.object "com/example/cores_from_twigs/coresfromtwigs/constraints/Relation"), (.object "java/lang/String")], none⟩ := by decide +kernel
theorem pd_8 : parseMethodDescriptor "(II)Z" = some ⟨[.int, .int], some .boolean⟩ := by decide +kernel
def Q_rm0 (Z : State) (p1 p2 p3 p4 p5 p6 zc : Int32) (o0 o1 o2 o3 : Addr) (h0 : Heap) (n0 : Nat) (v : Option Value) (h : Heap) (L : List Loc) : Prop := v = some (.int 1) ∧ Fr n0 L
set_option maxRecDepth 65536 in
set_option maxHeartbeats 40000000 in
theorem rm0 (l : Launch) (Z : State) (a0 : Array Value) (hw : ∀ d ∈ tables_1, d.before a0 Z = true) (ws : List Jvm.Cond) (p1 p2 p3 p4 p5 p6 zc : Int32) (o0 o1 o2 o3 : Addr) (h0 : Heap) (n0 : Nat) (Z0 : n0 ≤ h0.size) (OO : Old Z n0 h0) (O2 : Sta Z Z.heap "java/lang/String" "COMPACT_STRINGS" "Z" (.int zc)) (P5 : ¬ zc = 0) (S0 : Sta Z Z.heap "com/example/cores_from_twigs/coresfromtwigs/constraints/Relation" "CHILD" "Lcom/example/cores_from_twigs/coresfromtwigs/constraints/Relation;" (.ref o0)) (S1 : Sta Z Z.heap "com/example/cores_from_twigs/coresfromtwigs/constraints/Relation" "DESCENDANT" "Lcom/example/cores_from_twigs/coresfromtwigs/constraints/Relation;" (.ref o1)) (S2 : Sta Z Z.heap "com/example/cores_from_twigs/coresfromtwigs/constraints/Relation" "PARENT" "Lcom/example/cores_from_twigs/coresfromtwigs/constraints/Relation;" (.ref o2)) (S3 : Sta Z Z.heap "com/example/cores_from_twigs/coresfromtwigs/constraints/Relation" "ANCESTOR" "Lcom/example/cores_from_twigs/coresfromtwigs/constraints/Relation;" (.ref o3)) (X0x : Exa Z Z.heap o0 "com/example/cores_from_twigs/coresfromtwigs/constraints/Relation") (X1x : Exa Z Z.heap o1 "com/example/cores_from_twigs/coresfromtwigs/constraints/Relation") (X2x : Exa Z Z.heap o2 "com/example/cores_from_twigs/coresfromtwigs/constraints/Relation") (X3x : Exa Z Z.heap o3 "com/example/cores_from_twigs/coresfromtwigs/constraints/Relation") (n01 : o0 ≠ o1) (n02 : o0 ≠ o2) (n03 : o0 ≠ o3) (n12 : o1 ≠ o2) (n13 : o1 ≠ o3) (n23 : o2 ≠ o3) :
    MetFree l x (head1 (Jvm.Cond.code x code maxLocals ret :: ws) room_1) (fun ag U => ag = #[(.int p1), (.int p2), (.int p3), (.int p4), (.int p5), (.int p6)] ∧ Z.Warmed39 U.vm ∧ U.heap = h0 ∧ CHv Z own_EL U.vm h0) (fun _ _ _ _ _ => True) (fun _ U o U' => ∃ v L, o = .returned v ∧ Q_rm0 Z p1 p2 p3 p4 p5 p6 zc o0 o1 o2 o3 h0 n0 v U'.heap L ∧ CHr Z own_EL U.vm U.heap U'.vm U'.heap ∧ ReturnedEndW U o U' L room_1.cells room_1.slots) := by
  refine MetFree.of_bodySF (plainFor_of_name pn_1) hisR ?_
  intro p e s m args below meth c s₁ Bd hml0 hP hK
  obtain ⟨rfl, hZ, hh, hCH⟩ := hP
  have hx := Bd.exec
  have hby := Bd.bytes
  have hml : c.maxLocals = 21 := hml0
  have hown : s.vm.findClass "com/example/cores_from_twigs/coresfromtwigs/constraints/ConstraintEqualsPinLaw" = some m.cls := findClass_of_methodNamed Bd.named
  have hnm := (name_of_methodNamed Bd.named Bd.method).1
  have hZ0 : Z.Warmed39 (s.setVm s.vm).vm := hZ
  have hown0 : (s.setVm s.vm).vm.findClass "com/example/cores_from_twigs/coresfromtwigs/constraints/ConstraintEqualsPinLaw" = some m.cls := hown
  have hS0 : s.Since s.vm 0 := (State.WarmedH.refl s).since 0
  have hk0 : 0 ≤ h0.size := Nat.zero_le _
  have CR0 : CHr Z own_EL s.vm h0 s.vm h0 := CHr.refl hCH
  have hEL : EW Z a0 own_EL := own_hEL hw
  have wS := own_wS hw
  have X0 : Stand p l e room_1 (s.setVm s.vm) m #[(.int p1), (.int p2), (.int p3), (.int p4), (.int p5), (.int p6)] below meth c s₁ [] 0 0 := Stand.of_body Bd
  have e0 : s₁.heap = h0 := by rw [← hh, Bd.state]; rfl
  have N0 := Fr.nil n0
  refine own_start (ef_rm0 m p1 p2 p3 p4 p5 p6) ?_
  intro F hF
  show own_Gl p.tables e below F (s₁.setTop (mkF m 0 #[.val (.int p1), .val (.int p2), .val (.int p3), .val (.int p4), .val (.int p5), .val (.int p6), .unset, .unset, .unset, .unset, .unset, .unset, .unset, .unset, .unset, .unset, .unset, .unset, .unset, .unset, .unset] []))
  refine own_go (fun _ k => XS.iload X0.here hx rfl (hb hby at_0) rfl k) ?_
  show own_Gl p.tables e below F (s₁.setTop (mkF m 2 #[.val (.int p1), .val (.int p2), .val (.int p3), .val (.int p4), .val (.int p5), .val (.int p6), .unset, .unset, .unset, .unset, .unset, .unset, .unset, .unset, .unset, .unset, .unset, .unset, .unset, .unset, .unset] [(.int p6)]))
  refine own_go (fun _ k => XS.iconst X0.here hx rfl (hb hby at_2) k) ?_
  show own_Gl p.tables e below F (s₁.setTop (mkF m 3 #[.val (.int p1), .val (.int p2), .val (.int p3), .val (.int p4), .val (.int p5), .val (.int p6), .unset, .unset, .unset, .unset, .unset, .unset, .unset, .unset, .unset, .unset, .unset, .unset, .unset, .unset, .unset] [(.int (1 : Int32)), (.int p6)]))
  refine own_go (fun _ k => XS.iand X0.here hx rfl (hb hby at_3) rfl k) ?_
  show own_Gl p.tables e below F (s₁.setTop (mkF m 4 #[.val (.int p1), .val (.int p2), .val (.int p3), .val (.int p4), .val (.int p5), .val (.int p6), .unset, .unset, .unset, .unset, .unset, .unset, .unset, .unset, .unset, .unset, .unset, .unset, .unset, .unset, .unset] [(.int (p6 &&& (1 : Int32)))]))
  refine own_go (st' := s₁.setTop (mkF m 12 #[.val (.int p1), .val (.int p2), .val (.int p3), .val (.int p4), .val (.int p5), .val (.int p6), .unset, .unset, .unset, .unset, .unset, .unset, .unset, .unset, .unset, .unset, .unset, .unset, .unset, .unset, .unset] [(.int (if (p6 &&& (1 : Int32)) = 0 then p2 else p1))])) (fun t k => ?_) ?_
  · by_cases hc : (p6 &&& (1 : Int32)) = 0
    · simp only [if_pos hc] at k
      refine XS.ifYes X0.here hx rfl (pc0 := 4) (pc' := 11) rfl (hb hby at_4) rfl (XT.i0_eq_t hc) (by decide) (by decide) ?_
      show Steps p.tables e below (s₁.setTop (mkF m 11 #[.val (.int p1), .val (.int p2), .val (.int p3), .val (.int p4), .val (.int p5), .val (.int p6), .unset, .unset, .unset, .unset, .unset, .unset, .unset, .unset, .unset, .unset, .unset, .unset, .unset, .unset, .unset] [])) _
      refine XS.iloadN X0.here hx rfl (hb hby at_11) rfl ?_
      show Steps p.tables e below (s₁.setTop (mkF m 12 #[.val (.int p1), .val (.int p2), .val (.int p3), .val (.int p4), .val (.int p5), .val (.int p6), .unset, .unset, .unset, .unset, .unset, .unset, .unset, .unset, .unset, .unset, .unset, .unset, .unset, .unset, .unset] [(.int p2)])) _
      first | exact k | (simp only [if_pos hc]; exact k)
    · simp only [if_neg hc] at k
      refine XS.ifNo X0.here hx rfl (hb hby at_4) rfl (XT.i0_eq_f hc) ?_
      show Steps p.tables e below (s₁.setTop (mkF m 7 #[.val (.int p1), .val (.int p2), .val (.int p3), .val (.int p4), .val (.int p5), .val (.int p6), .unset, .unset, .unset, .unset, .unset, .unset, .unset, .unset, .unset, .unset, .unset, .unset, .unset, .unset, .unset] [])) _
      refine XS.iloadN X0.here hx rfl (hb hby at_7) rfl ?_
      show Steps p.tables e below (s₁.setTop (mkF m 8 #[.val (.int p1), .val (.int p2), .val (.int p3), .val (.int p4), .val (.int p5), .val (.int p6), .unset, .unset, .unset, .unset, .unset, .unset, .unset, .unset, .unset, .unset, .unset, .unset, .unset, .unset, .unset] [(.int p1)])) _
      refine XS.goto X0.here hx rfl (pc0 := 8) (pc' := 12) rfl (hb hby at_8) (by decide) (by decide) ?_
      show Steps p.tables e below (s₁.setTop (mkF m 12 #[.val (.int p1), .val (.int p2), .val (.int p3), .val (.int p4), .val (.int p5), .val (.int p6), .unset, .unset, .unset, .unset, .unset, .unset, .unset, .unset, .unset, .unset, .unset, .unset, .unset, .unset, .unset] [(.int p1)])) _
      first | exact k | (simp only [if_neg hc]; exact k)
  show own_Gl p.tables e below F (s₁.setTop (mkF m 12 #[.val (.int p1), .val (.int p2), .val (.int p3), .val (.int p4), .val (.int p5), .val (.int p6), .unset, .unset, .unset, .unset, .unset, .unset, .unset, .unset, .unset, .unset, .unset, .unset, .unset, .unset, .unset] [(.int (if (p6 &&& (1 : Int32)) = 0 then p2 else p1))]))
  generalize (if (p6 &&& (1 : Int32)) = 0 then p2 else p1) = sQ
  show own_Gl p.tables e below F (s₁.setTop (mkF m 12 #[.val (.int p1), .val (.int p2), .val (.int p3), .val (.int p4), .val (.int p5), .val (.int p6), .unset, .unset, .unset, .unset, .unset, .unset, .unset, .unset, .unset, .unset, .unset, .unset, .unset, .unset, .unset] [(.int sQ)]))
  refine own_go (fun _ k => XS.istore X0.here hx rfl (hb hby at_12) rfl (l' := #[.val (.int p1), .val (.int p2), .val (.int p3), .val (.int p4), .val (.int p5), .val (.int p6), .val (.int sQ), .unset, .unset, .unset, .unset, .unset, .unset, .unset, .unset, .unset, .unset, .unset, .unset, .unset, .unset]) rfl k) ?_
  show own_Gl p.tables e below F (s₁.setTop (mkF m 14 #[.val (.int p1), .val (.int p2), .val (.int p3), .val (.int p4), .val (.int p5), .val (.int p6), .val (.int sQ), .unset, .unset, .unset, .unset, .unset, .unset, .unset, .unset, .unset, .unset, .unset, .unset, .unset, .unset] []))
  refine own_go (fun _ k => XS.iload X0.here hx rfl (hb hby at_14) rfl k) ?_
  show own_Gl p.tables e below F (s₁.setTop (mkF m 16 #[.val (.int p1), .val (.int p2), .val (.int p3), .val (.int p4), .val (.int p5), .val (.int p6), .val (.int sQ), .unset, .unset, .unset, .unset, .unset, .unset, .unset, .unset, .unset, .unset, .unset, .unset, .unset, .unset] [(.int p6)]))
  refine own_go (fun _ k => XS.iconst X0.here hx rfl (hb hby at_16) k) ?_
  show own_Gl p.tables e below F (s₁.setTop (mkF m 17 #[.val (.int p1), .val (.int p2), .val (.int p3), .val (.int p4), .val (.int p5), .val (.int p6), .val (.int sQ), .unset, .unset, .unset, .unset, .unset, .unset, .unset, .unset, .unset, .unset, .unset, .unset, .unset, .unset] [(.int (2 : Int32)), (.int p6)]))
  refine own_go (fun _ k => XS.iand X0.here hx rfl (hb hby at_17) rfl k) ?_
  show own_Gl p.tables e below F (s₁.setTop (mkF m 18 #[.val (.int p1), .val (.int p2), .val (.int p3), .val (.int p4), .val (.int p5), .val (.int p6), .val (.int sQ), .unset, .unset, .unset, .unset, .unset, .unset, .unset, .unset, .unset, .unset, .unset, .unset, .unset, .unset] [(.int (p6 &&& (2 : Int32)))]))
  refine own_go (st' := s₁.setTop (mkF m 26 #[.val (.int p1), .val (.int p2), .val (.int p3), .val (.int p4), .val (.int p5), .val (.int p6), .val (.int sQ), .unset, .unset, .unset, .unset, .unset, .unset, .unset, .unset, .unset, .unset, .unset, .unset, .unset, .unset] [(.int (if (p6 &&& (2 : Int32)) = 0 then p4 else p3))])) (fun t k => ?_) ?_
  · by_cases hc : (p6 &&& (2 : Int32)) = 0
    · simp only [if_pos hc] at k
      refine XS.ifYes X0.here hx rfl (pc0 := 18) (pc' := 25) rfl (hb hby at_18) rfl (XT.i0_eq_t hc) (by decide) (by decide) ?_
      show Steps p.tables e below (s₁.setTop (mkF m 25 #[.val (.int p1), .val (.int p2), .val (.int p3), .val (.int p4), .val (.int p5), .val (.int p6), .val (.int sQ), .unset, .unset, .unset, .unset, .unset, .unset, .unset, .unset, .unset, .unset, .unset, .unset, .unset, .unset] [])) _
      refine XS.iloadN X0.here hx rfl (hb hby at_25) rfl ?_
      show Steps p.tables e below (s₁.setTop (mkF m 26 #[.val (.int p1), .val (.int p2), .val (.int p3), .val (.int p4), .val (.int p5), .val (.int p6), .val (.int sQ), .unset, .unset, .unset, .unset, .unset, .unset, .unset, .unset, .unset, .unset, .unset, .unset, .unset, .unset] [(.int p4)])) _
      first | exact k | (simp only [if_pos hc]; exact k)
    · simp only [if_neg hc] at k
      refine XS.ifNo X0.here hx rfl (hb hby at_18) rfl (XT.i0_eq_f hc) ?_
      show Steps p.tables e below (s₁.setTop (mkF m 21 #[.val (.int p1), .val (.int p2), .val (.int p3), .val (.int p4), .val (.int p5), .val (.int p6), .val (.int sQ), .unset, .unset, .unset, .unset, .unset, .unset, .unset, .unset, .unset, .unset, .unset, .unset, .unset, .unset] [])) _
      refine XS.iloadN X0.here hx rfl (hb hby at_21) rfl ?_
      show Steps p.tables e below (s₁.setTop (mkF m 22 #[.val (.int p1), .val (.int p2), .val (.int p3), .val (.int p4), .val (.int p5), .val (.int p6), .val (.int sQ), .unset, .unset, .unset, .unset, .unset, .unset, .unset, .unset, .unset, .unset, .unset, .unset, .unset, .unset] [(.int p3)])) _
      refine XS.goto X0.here hx rfl (pc0 := 22) (pc' := 26) rfl (hb hby at_22) (by decide) (by decide) ?_
      show Steps p.tables e below (s₁.setTop (mkF m 26 #[.val (.int p1), .val (.int p2), .val (.int p3), .val (.int p4), .val (.int p5), .val (.int p6), .val (.int sQ), .unset, .unset, .unset, .unset, .unset, .unset, .unset, .unset, .unset, .unset, .unset, .unset, .unset, .unset] [(.int p3)])) _
      first | exact k | (simp only [if_neg hc]; exact k)
  show own_Gl p.tables e below F (s₁.setTop (mkF m 26 #[.val (.int p1), .val (.int p2), .val (.int p3), .val (.int p4), .val (.int p5), .val (.int p6), .val (.int sQ), .unset, .unset, .unset, .unset, .unset, .unset, .unset, .unset, .unset, .unset, .unset, .unset, .unset, .unset] [(.int (if (p6 &&& (2 : Int32)) = 0 then p4 else p3))]))
  generalize (if (p6 &&& (2 : Int32)) = 0 then p4 else p3) = oQ
  show own_Gl p.tables e below F (s₁.setTop (mkF m 26 #[.val (.int p1), .val (.int p2), .val (.int p3), .val (.int p4), .val (.int p5), .val (.int p6), .val (.int sQ), .unset, .unset, .unset, .unset, .unset, .unset, .unset, .unset, .unset, .unset, .unset, .unset, .unset, .unset] [(.int oQ)]))
  refine own_go (fun _ k => XS.istore X0.here hx rfl (hb hby at_26) rfl (l' := #[.val (.int p1), .val (.int p2), .val (.int p3), .val (.int p4), .val (.int p5), .val (.int p6), .val (.int sQ), .val (.int oQ), .unset, .unset, .unset, .unset, .unset, .unset, .unset, .unset, .unset, .unset, .unset, .unset, .unset]) rfl k) ?_
  show own_Gl p.tables e below F (s₁.setTop (mkF m 28 #[.val (.int p1), .val (.int p2), .val (.int p3), .val (.int p4), .val (.int p5), .val (.int p6), .val (.int sQ), .val (.int oQ), .unset, .unset, .unset, .unset, .unset, .unset, .unset, .unset, .unset, .unset, .unset, .unset, .unset] []))
  refine own_go (fun _ k => XS.iload X0.here hx rfl (hb hby at_28) rfl k) ?_
  show own_Gl p.tables e below F (s₁.setTop (mkF m 30 #[.val (.int p1), .val (.int p2), .val (.int p3), .val (.int p4), .val (.int p5), .val (.int p6), .val (.int sQ), .val (.int oQ), .unset, .unset, .unset, .unset, .unset, .unset, .unset, .unset, .unset, .unset, .unset, .unset, .unset] [(.int p5)]))
  refine own_go (fun _ k => XS.iconst X0.here hx rfl (hb hby at_30) k) ?_
  show own_Gl p.tables e below F (s₁.setTop (mkF m 31 #[.val (.int p1), .val (.int p2), .val (.int p3), .val (.int p4), .val (.int p5), .val (.int p6), .val (.int sQ), .val (.int oQ), .unset, .unset, .unset, .unset, .unset, .unset, .unset, .unset, .unset, .unset, .unset, .unset, .unset] [(.int (3 : Int32)), (.int p5)]))
  refine own_go (fun _ k => XS.iand X0.here hx rfl (hb hby at_31) rfl k) ?_
  show own_Gl p.tables e below F (s₁.setTop (mkF m 32 #[.val (.int p1), .val (.int p2), .val (.int p3), .val (.int p4), .val (.int p5), .val (.int p6), .val (.int sQ), .val (.int oQ), .unset, .unset, .unset, .unset, .unset, .unset, .unset, .unset, .unset, .unset, .unset, .unset, .unset] [(.int (p5 &&& (3 : Int32)))]))
  have hr1 := own_m p5
  generalize (p5 &&& (3 : Int32)) = r1 at hr1 ⊢
  show own_Gl p.tables e below F (s₁.setTop (mkF m 32 #[.val (.int p1), .val (.int p2), .val (.int p3), .val (.int p4), .val (.int p5), .val (.int p6), .val (.int sQ), .val (.int oQ), .unset, .unset, .unset, .unset, .unset, .unset, .unset, .unset, .unset, .unset, .unset, .unset, .unset] [(.int r1)]))
  refine own_go (fun _ k => XS.istore X0.here hx rfl (hb hby at_32) rfl (l' := #[.val (.int p1), .val (.int p2), .val (.int p3), .val (.int p4), .val (.int p5), .val (.int p6), .val (.int sQ), .val (.int oQ), .val (.int r1), .unset, .unset, .unset, .unset, .unset, .unset, .unset, .unset, .unset, .unset, .unset, .unset]) rfl k) ?_
  show own_Gl p.tables e below F (s₁.setTop (mkF m 34 #[.val (.int p1), .val (.int p2), .val (.int p3), .val (.int p4), .val (.int p5), .val (.int p6), .val (.int sQ), .val (.int oQ), .val (.int r1), .unset, .unset, .unset, .unset, .unset, .unset, .unset, .unset, .unset, .unset, .unset, .unset] []))
  refine own_go (fun _ k => XS.iload X0.here hx rfl (hb hby at_34) rfl k) ?_
  show own_Gl p.tables e below F (s₁.setTop (mkF m 36 #[.val (.int p1), .val (.int p2), .val (.int p3), .val (.int p4), .val (.int p5), .val (.int p6), .val (.int sQ), .val (.int oQ), .val (.int r1), .unset, .unset, .unset, .unset, .unset, .unset, .unset, .unset, .unset, .unset, .unset, .unset] [(.int p6)]))
  refine own_go (fun _ k => XS.iconst X0.here hx rfl (hb hby at_36) k) ?_
  show own_Gl p.tables e below F (s₁.setTop (mkF m 37 #[.val (.int p1), .val (.int p2), .val (.int p3), .val (.int p4), .val (.int p5), .val (.int p6), .val (.int sQ), .val (.int oQ), .val (.int r1), .unset, .unset, .unset, .unset, .unset, .unset, .unset, .unset, .unset, .unset, .unset, .unset] [(.int (4 : Int32)), (.int p6)]))
  refine own_go (fun _ k => XS.iand X0.here hx rfl (hb hby at_37) rfl k) ?_
  show own_Gl p.tables e below F (s₁.setTop (mkF m 38 #[.val (.int p1), .val (.int p2), .val (.int p3), .val (.int p4), .val (.int p5), .val (.int p6), .val (.int sQ), .val (.int oQ), .val (.int r1), .unset, .unset, .unset, .unset, .unset, .unset, .unset, .unset, .unset, .unset, .unset, .unset] [(.int (p6 &&& (4 : Int32)))]))
  refine own_go (st' := s₁.setTop (mkF m 52 #[.val (.int p1), .val (.int p2), .val (.int p3), .val (.int p4), .val (.int p5), .val (.int p6), .val (.int sQ), .val (.int oQ), .val (.int r1), .unset, .unset, .unset, .unset, .unset, .unset, .unset, .unset, .unset, .unset, .unset, .unset] [(.int (if (p6 &&& (4 : Int32)) = 0 then ((XT.ushr p5 (2 : Int32)) &&& (3 : Int32)) else r1))])) (fun t k => ?_) ?_
  · by_cases hc : (p6 &&& (4 : Int32)) = 0
    · simp only [if_pos hc] at k
      refine XS.ifYes X0.here hx rfl (pc0 := 38) (pc' := 46) rfl (hb hby at_38) rfl (XT.i0_eq_t hc) (by decide) (by decide) ?_
      show Steps p.tables e below (s₁.setTop (mkF m 46 #[.val (.int p1), .val (.int p2), .val (.int p3), .val (.int p4), .val (.int p5), .val (.int p6), .val (.int sQ), .val (.int oQ), .val (.int r1), .unset, .unset, .unset, .unset, .unset, .unset, .unset, .unset, .unset, .unset, .unset, .unset] [])) _
      refine XS.iload X0.here hx rfl (hb hby at_46) rfl ?_
      show Steps p.tables e below (s₁.setTop (mkF m 48 #[.val (.int p1), .val (.int p2), .val (.int p3), .val (.int p4), .val (.int p5), .val (.int p6), .val (.int sQ), .val (.int oQ), .val (.int r1), .unset, .unset, .unset, .unset, .unset, .unset, .unset, .unset, .unset, .unset, .unset, .unset] [(.int p5)])) _
      refine XS.iconst X0.here hx rfl (hb hby at_48) ?_
      show Steps p.tables e below (s₁.setTop (mkF m 49 #[.val (.int p1), .val (.int p2), .val (.int p3), .val (.int p4), .val (.int p5), .val (.int p6), .val (.int sQ), .val (.int oQ), .val (.int r1), .unset, .unset, .unset, .unset, .unset, .unset, .unset, .unset, .unset, .unset, .unset, .unset] [(.int (2 : Int32)), (.int p5)])) _
      refine XS.iushr X0.here hx rfl (hb hby at_49) rfl ?_
      show Steps p.tables e below (s₁.setTop (mkF m 50 #[.val (.int p1), .val (.int p2), .val (.int p3), .val (.int p4), .val (.int p5), .val (.int p6), .val (.int sQ), .val (.int oQ), .val (.int r1), .unset, .unset, .unset, .unset, .unset, .unset, .unset, .unset, .unset, .unset, .unset, .unset] [(.int (XT.ushr p5 (2 : Int32)))])) _
      refine XS.iconst X0.here hx rfl (hb hby at_50) ?_
      show Steps p.tables e below (s₁.setTop (mkF m 51 #[.val (.int p1), .val (.int p2), .val (.int p3), .val (.int p4), .val (.int p5), .val (.int p6), .val (.int sQ), .val (.int oQ), .val (.int r1), .unset, .unset, .unset, .unset, .unset, .unset, .unset, .unset, .unset, .unset, .unset, .unset] [(.int (3 : Int32)), (.int (XT.ushr p5 (2 : Int32)))])) _
      refine XS.iand X0.here hx rfl (hb hby at_51) rfl ?_
      show Steps p.tables e below (s₁.setTop (mkF m 52 #[.val (.int p1), .val (.int p2), .val (.int p3), .val (.int p4), .val (.int p5), .val (.int p6), .val (.int sQ), .val (.int oQ), .val (.int r1), .unset, .unset, .unset, .unset, .unset, .unset, .unset, .unset, .unset, .unset, .unset, .unset] [(.int ((XT.ushr p5 (2 : Int32)) &&& (3 : Int32)))])) _
      first | exact k | (simp only [if_pos hc]; exact k)
    · simp only [if_neg hc] at k
      refine XS.ifNo X0.here hx rfl (hb hby at_38) rfl (XT.i0_eq_f hc) ?_
      show Steps p.tables e below (s₁.setTop (mkF m 41 #[.val (.int p1), .val (.int p2), .val (.int p3), .val (.int p4), .val (.int p5), .val (.int p6), .val (.int sQ), .val (.int oQ), .val (.int r1), .unset, .unset, .unset, .unset, .unset, .unset, .unset, .unset, .unset, .unset, .unset, .unset] [])) _
      refine XS.iload X0.here hx rfl (hb hby at_41) rfl ?_
      show Steps p.tables e below (s₁.setTop (mkF m 43 #[.val (.int p1), .val (.int p2), .val (.int p3), .val (.int p4), .val (.int p5), .val (.int p6), .val (.int sQ), .val (.int oQ), .val (.int r1), .unset, .unset, .unset, .unset, .unset, .unset, .unset, .unset, .unset, .unset, .unset, .unset] [(.int r1)])) _
      refine XS.goto X0.here hx rfl (pc0 := 43) (pc' := 52) rfl (hb hby at_43) (by decide) (by decide) ?_
      show Steps p.tables e below (s₁.setTop (mkF m 52 #[.val (.int p1), .val (.int p2), .val (.int p3), .val (.int p4), .val (.int p5), .val (.int p6), .val (.int sQ), .val (.int oQ), .val (.int r1), .unset, .unset, .unset, .unset, .unset, .unset, .unset, .unset, .unset, .unset, .unset, .unset] [(.int r1)])) _
      first | exact k | (simp only [if_neg hc]; exact k)
  show own_Gl p.tables e below F (s₁.setTop (mkF m 52 #[.val (.int p1), .val (.int p2), .val (.int p3), .val (.int p4), .val (.int p5), .val (.int p6), .val (.int sQ), .val (.int oQ), .val (.int r1), .unset, .unset, .unset, .unset, .unset, .unset, .unset, .unset, .unset, .unset, .unset, .unset] [(.int (if (p6 &&& (4 : Int32)) = 0 then ((XT.ushr p5 (2 : Int32)) &&& (3 : Int32)) else r1))]))
  have hr2 : ((if (p6 &&& (4 : Int32)) = 0 then ((XT.ushr p5 (2 : Int32)) &&& (3 : Int32)) else r1) = 0 ∨ (if (p6 &&& (4 : Int32)) = 0 then ((XT.ushr p5 (2 : Int32)) &&& (3 : Int32)) else r1) = 1 ∨ (if (p6 &&& (4 : Int32)) = 0 then ((XT.ushr p5 (2 : Int32)) &&& (3 : Int32)) else r1) = 2 ∨ (if (p6 &&& (4 : Int32)) = 0 then ((XT.ushr p5 (2 : Int32)) &&& (3 : Int32)) else r1) = 3) := own_bits _ _ _ (fun r => r = 0 ∨ r = 1 ∨ r = 2 ∨ r = 3) (own_m _) hr1
  generalize (if (p6 &&& (4 : Int32)) = 0 then ((XT.ushr p5 (2 : Int32)) &&& (3 : Int32)) else r1) = r2 at hr2 ⊢
  show own_Gl p.tables e below F (s₁.setTop (mkF m 52 #[.val (.int p1), .val (.int p2), .val (.int p3), .val (.int p4), .val (.int p5), .val (.int p6), .val (.int sQ), .val (.int oQ), .val (.int r1), .unset, .unset, .unset, .unset, .unset, .unset, .unset, .unset, .unset, .unset, .unset, .unset] [(.int r2)]))
  refine own_go (fun _ k => XS.istore X0.here hx rfl (hb hby at_52) rfl (l' := #[.val (.int p1), .val (.int p2), .val (.int p3), .val (.int p4), .val (.int p5), .val (.int p6), .val (.int sQ), .val (.int oQ), .val (.int r1), .val (.int r2), .unset, .unset, .unset, .unset, .unset, .unset, .unset, .unset, .unset, .unset, .unset]) rfl k) ?_
  show own_Gl p.tables e below F (s₁.setTop (mkF m 54 #[.val (.int p1), .val (.int p2), .val (.int p3), .val (.int p4), .val (.int p5), .val (.int p6), .val (.int sQ), .val (.int oQ), .val (.int r1), .val (.int r2), .unset, .unset, .unset, .unset, .unset, .unset, .unset, .unset, .unset, .unset, .unset] []))
  refine own_go (fun _ k => XS.iloadN X0.here hx rfl (hb hby at_54) rfl k) ?_
  show own_Gl p.tables e below F (s₁.setTop (mkF m 55 #[.val (.int p1), .val (.int p2), .val (.int p3), .val (.int p4), .val (.int p5), .val (.int p6), .val (.int sQ), .val (.int oQ), .val (.int r1), .val (.int r2), .unset, .unset, .unset, .unset, .unset, .unset, .unset, .unset, .unset, .unset, .unset] [(.int p1)]))
  obtain ⟨_, _, ⟨T1, L1, k1, n1⟩, -, X1, hs1, hg1, ⟨Lc1, hQ1, l1, y1, z1, hC1⟩, st1⟩ := callSS X0 hx (y := (⟨"com/example/cores_from_twigs/coresfromtwigs/constraints/ConstraintEqualsPinLaw", "str", "(I)Ljava/lang/String;"⟩ : MethodName)) hown0 (mvT hZ0 (hw _ (List.mem_of_getElem? (i := 0) rfl))) (mvT hZ0 (hw _ (List.mem_of_getElem? (i := 1) rfl))) (mvT hZ0 (hw _ (List.mem_of_getElem? (i := 2) rfl))) (mvT hZ0 (hw _ (List.mem_of_getElem? (i := 3) rfl))) (by decide) (backOfSH (W := 0) (rm1 l Z a0 hw [] p1 zc h0 n0 Z0 OO O2 P5) hZ0 (hw _ (List.mem_of_getElem? (i := 3) rfl)) (hw _ (List.mem_of_getElem? (i := 2) rfl)) (by decide) (by decide) hEL CR0.1) (g := (mkF m 55 #[.val (.int p1), .val (.int p2), .val (.int p3), .val (.int p4), .val (.int p5), .val (.int p6), .val (.int sQ), .val (.int oQ), .val (.int r1), .val (.int r2), .unset, .unset, .unset, .unset, .unset, .unset, .unset, .unset, .unset, .unset, .unset] [(.int p1)])) rfl (by rw [hml]; rfl) (argsL := [(.int p1)]) (rest := []) (lenOf pd_5 rfl) rfl (by show 2 * 0 + _ ≤ _; exact Nat.le_of_eq rfl) (hb hby at_55) (fun _ _ => ⟨rfl, e0, (by first | decide | exact Nat.le_of_ble_eq_true rfl), (by first | decide | exact Nat.le_of_ble_eq_true rfl)⟩)
  dsimp only [Pt.U, Pt.locs, Pt.cells, Pt.slots] at X1 l1 y1 z1 st1 hQ1 hs1 hg1 hC1
  obtain ⟨x1, rfl, N1, K1, hx1, T1x⟩ := hQ1
  have X1 := own_sn X1 (k' := 6) (n' := 12) y1 z1
  have NF1 := own_fr l1 N0 N1
  obtain ⟨XR1, hS1, hZ1, hown1⟩ := rebS hS0 (by rw [e0]; exact hk0) X1 hs1 hg1 hZ0 hown0
  have CR1 := CR0.trans hC1
  have f1_1 := OO.keep K1 (all0)
  have Z1 : n0 ≤ T1.heap.size := Nat.le_trans Z0 K1.1
  have KK1 := Keep.trans (Keep.refl h0 []) K1 (fun _ q => nomatch q)
  have hk1 : T1.heap.size ≤ T1.heap.size := Nat.le_refl _
  refine own_go (fun _ k => st1.trans k) ?_
  show own_Gl p.tables e below F (T1.setTop (mkF m 58 #[.val (.int p1), .val (.int p2), .val (.int p3), .val (.int p4), .val (.int p5), .val (.int p6), .val (.int sQ), .val (.int oQ), .val (.int r1), .val (.int r2), .unset, .unset, .unset, .unset, .unset, .unset, .unset, .unset, .unset, .unset, .unset] [(.ref x1)]))
  refine own_go (fun _ k => XS.astore XR1.here hx rfl (hb hby at_58) rfl rfl (l' := #[.val (.int p1), .val (.int p2), .val (.int p3), .val (.int p4), .val (.int p5), .val (.int p6), .val (.int sQ), .val (.int oQ), .val (.int r1), .val (.int r2), .val (.ref x1), .unset, .unset, .unset, .unset, .unset, .unset, .unset, .unset, .unset, .unset]) rfl k) ?_
  show own_Gl p.tables e below F (T1.setTop (mkF m 60 #[.val (.int p1), .val (.int p2), .val (.int p3), .val (.int p4), .val (.int p5), .val (.int p6), .val (.int sQ), .val (.int oQ), .val (.int r1), .val (.int r2), .val (.ref x1), .unset, .unset, .unset, .unset, .unset, .unset, .unset, .unset, .unset, .unset] []))
  refine own_go (fun _ k => XS.iload XR1.here hx rfl (hb hby at_60) rfl k) ?_
  show own_Gl p.tables e below F (T1.setTop (mkF m 62 #[.val (.int p1), .val (.int p2), .val (.int p3), .val (.int p4), .val (.int p5), .val (.int p6), .val (.int sQ), .val (.int oQ), .val (.int r1), .val (.int r2), .val (.ref x1), .unset, .unset, .unset, .unset, .unset, .unset, .unset, .unset, .unset, .unset] [(.int sQ)]))
  obtain ⟨_, _, ⟨T2, L2, k2, n2⟩, -, X2, hs2, hg2, ⟨Lc2, hQ2, l2, y2, z2, hC2⟩, st2⟩ := callSS XR1 hx (y := (⟨"com/example/cores_from_twigs/coresfromtwigs/constraints/ConstraintEqualsPinLaw", "str", "(I)Ljava/lang/String;"⟩ : MethodName)) hown1 (mvT hZ1 (hw _ (List.mem_of_getElem? (i := 0) rfl))) (mvT hZ1 (hw _ (List.mem_of_getElem? (i := 1) rfl))) (mvT hZ1 (hw _ (List.mem_of_getElem? (i := 2) rfl))) (mvT hZ1 (hw _ (List.mem_of_getElem? (i := 3) rfl))) (by decide) (backOfSH (W := 0) (rm1 l Z a0 hw [] sQ zc T1.heap n0 Z1 f1_1 O2 P5) hZ1 (hw _ (List.mem_of_getElem? (i := 3) rfl)) (hw _ (List.mem_of_getElem? (i := 2) rfl)) (by decide) (by decide) hEL CR1.1) (g := (mkF m 62 #[.val (.int p1), .val (.int p2), .val (.int p3), .val (.int p4), .val (.int p5), .val (.int p6), .val (.int sQ), .val (.int oQ), .val (.int r1), .val (.int r2), .val (.ref x1), .unset, .unset, .unset, .unset, .unset, .unset, .unset, .unset, .unset, .unset] [(.int sQ)])) rfl (by rw [hml]; rfl) (argsL := [(.int sQ)]) (rest := []) (lenOf pd_5 rfl) rfl (by show 2 * 0 + _ ≤ _; exact Nat.le_of_eq rfl) (hb hby at_62) (fun _ _ => ⟨rfl, rfl, (by first | decide | exact Nat.le_of_ble_eq_true rfl), (by first | decide | exact Nat.le_of_ble_eq_true rfl)⟩)
  dsimp only [Pt.U, Pt.locs, Pt.cells, Pt.slots] at X2 l2 y2 z2 st2 hQ2 hs2 hg2 hC2
  obtain ⟨x2, rfl, N2, K2, hx2, T2x⟩ := hQ2
  have X2 := own_sn X2 (k' := 12) (n' := 24) y2 z2
  have NF2 := own_fr l2 NF1 N2
  obtain ⟨XR2, hS2, hZ2, hown2⟩ := rebS hS1 (by exact hk1) X2 hs2 hg2 hZ1 hown1
  have CR2 := CR1.trans hC2
  have f2_1 := f1_1.keep K2 (all0)
  have f2_2 := T1x.keep0 K2
  have Z2 : n0 ≤ T2.heap.size := Nat.le_trans Z1 K2.1
  have KK2 := Keep.trans KK1 K2 (fun _ q => nomatch q)
  have hk2 : T2.heap.size ≤ T2.heap.size := Nat.le_refl _
  refine own_go (fun _ k => st2.trans k) ?_
  show own_Gl p.tables e below F (T2.setTop (mkF m 65 #[.val (.int p1), .val (.int p2), .val (.int p3), .val (.int p4), .val (.int p5), .val (.int p6), .val (.int sQ), .val (.int oQ), .val (.int r1), .val (.int r2), .val (.ref x1), .unset, .unset, .unset, .unset, .unset, .unset, .unset, .unset, .unset, .unset] [(.ref x2)]))
  refine own_go (fun _ k => XS.astore XR2.here hx rfl (hb hby at_65) rfl rfl (l' := #[.val (.int p1), .val (.int p2), .val (.int p3), .val (.int p4), .val (.int p5), .val (.int p6), .val (.int sQ), .val (.int oQ), .val (.int r1), .val (.int r2), .val (.ref x1), .val (.ref x2), .unset, .unset, .unset, .unset, .unset, .unset, .unset, .unset, .unset]) rfl k) ?_
  show own_Gl p.tables e below F (T2.setTop (mkF m 67 #[.val (.int p1), .val (.int p2), .val (.int p3), .val (.int p4), .val (.int p5), .val (.int p6), .val (.int sQ), .val (.int oQ), .val (.int r1), .val (.int r2), .val (.ref x1), .val (.ref x2), .unset, .unset, .unset, .unset, .unset, .unset, .unset, .unset, .unset] []))
  refine own_go (fun _ k => XS.iloadN XR2.here hx rfl (hb hby at_67) rfl k) ?_
  show own_Gl p.tables e below F (T2.setTop (mkF m 68 #[.val (.int p1), .val (.int p2), .val (.int p3), .val (.int p4), .val (.int p5), .val (.int p6), .val (.int sQ), .val (.int oQ), .val (.int r1), .val (.int r2), .val (.ref x1), .val (.ref x2), .unset, .unset, .unset, .unset, .unset, .unset, .unset, .unset, .unset] [(.int p3)]))
  obtain ⟨_, _, ⟨T3, L3, k3, n3⟩, -, X3, hs3, hg3, ⟨Lc3, hQ3, l3, y3, z3, hC3⟩, st3⟩ := callSS XR2 hx (y := (⟨"com/example/cores_from_twigs/coresfromtwigs/constraints/ConstraintEqualsPinLaw", "str", "(I)Ljava/lang/String;"⟩ : MethodName)) hown2 (mvT hZ2 (hw _ (List.mem_of_getElem? (i := 0) rfl))) (mvT hZ2 (hw _ (List.mem_of_getElem? (i := 1) rfl))) (mvT hZ2 (hw _ (List.mem_of_getElem? (i := 2) rfl))) (mvT hZ2 (hw _ (List.mem_of_getElem? (i := 3) rfl))) (by decide) (backOfSH (W := 0) (rm1 l Z a0 hw [] p3 zc T2.heap n0 Z2 f2_1 O2 P5) hZ2 (hw _ (List.mem_of_getElem? (i := 3) rfl)) (hw _ (List.mem_of_getElem? (i := 2) rfl)) (by decide) (by decide) hEL CR2.1) (g := (mkF m 68 #[.val (.int p1), .val (.int p2), .val (.int p3), .val (.int p4), .val (.int p5), .val (.int p6), .val (.int sQ), .val (.int oQ), .val (.int r1), .val (.int r2), .val (.ref x1), .val (.ref x2), .unset, .unset, .unset, .unset, .unset, .unset, .unset, .unset, .unset] [(.int p3)])) rfl (by rw [hml]; rfl) (argsL := [(.int p3)]) (rest := []) (lenOf pd_5 rfl) rfl (by show 2 * 0 + _ ≤ _; exact Nat.le_of_eq rfl) (hb hby at_68) (fun _ _ => ⟨rfl, rfl, (by first | decide | exact Nat.le_of_ble_eq_true rfl), (by first | decide | exact Nat.le_of_ble_eq_true rfl)⟩)
  dsimp only [Pt.U, Pt.locs, Pt.cells, Pt.slots] at X3 l3 y3 z3 st3 hQ3 hs3 hg3 hC3
  obtain ⟨x3, rfl, N3, K3, hx3, T3x⟩ := hQ3
  have X3 := own_sn X3 (k' := 18) (n' := 36) y3 z3
  have NF3 := own_fr l3 NF2 N3
  obtain ⟨XR3, hS3, hZ3, hown3⟩ := rebS hS2 (by exact hk2) X3 hs3 hg3 hZ2 hown2
  have CR3 := CR2.trans hC3
  have f3_1 := f2_1.keep K3 (all0)
  have f3_2 := f2_2.keep0 K3
  have f3_3 := T2x.keep0 K3
  have Z3 : n0 ≤ T3.heap.size := Nat.le_trans Z2 K3.1
  have KK3 := Keep.trans KK2 K3 (fun _ q => nomatch q)
  have hk3 : T3.heap.size ≤ T3.heap.size := Nat.le_refl _
  refine own_go (fun _ k => st3.trans k) ?_
  show own_Gl p.tables e below F (T3.setTop (mkF m 71 #[.val (.int p1), .val (.int p2), .val (.int p3), .val (.int p4), .val (.int p5), .val (.int p6), .val (.int sQ), .val (.int oQ), .val (.int r1), .val (.int r2), .val (.ref x1), .val (.ref x2), .unset, .unset, .unset, .unset, .unset, .unset, .unset, .unset, .unset] [(.ref x3)]))
  refine own_go (fun _ k => XS.astore XR3.here hx rfl (hb hby at_71) rfl rfl (l' := #[.val (.int p1), .val (.int p2), .val (.int p3), .val (.int p4), .val (.int p5), .val (.int p6), .val (.int sQ), .val (.int oQ), .val (.int r1), .val (.int r2), .val (.ref x1), .val (.ref x2), .val (.ref x3), .unset, .unset, .unset, .unset, .unset, .unset, .unset, .unset]) rfl k) ?_
  show own_Gl p.tables e below F (T3.setTop (mkF m 73 #[.val (.int p1), .val (.int p2), .val (.int p3), .val (.int p4), .val (.int p5), .val (.int p6), .val (.int sQ), .val (.int oQ), .val (.int r1), .val (.int r2), .val (.ref x1), .val (.ref x2), .val (.ref x3), .unset, .unset, .unset, .unset, .unset, .unset, .unset, .unset] []))
  refine own_go (fun _ k => XS.iload XR3.here hx rfl (hb hby at_73) rfl k) ?_
  show own_Gl p.tables e below F (T3.setTop (mkF m 75 #[.val (.int p1), .val (.int p2), .val (.int p3), .val (.int p4), .val (.int p5), .val (.int p6), .val (.int sQ), .val (.int oQ), .val (.int r1), .val (.int r2), .val (.ref x1), .val (.ref x2), .val (.ref x3), .unset, .unset, .unset, .unset, .unset, .unset, .unset, .unset] [(.int oQ)]))
  obtain ⟨_, _, ⟨T4, L4, k4, n4⟩, -, X4, hs4, hg4, ⟨Lc4, hQ4, l4, y4, z4, hC4⟩, st4⟩ := callSS XR3 hx (y := (⟨"com/example/cores_from_twigs/coresfromtwigs/constraints/ConstraintEqualsPinLaw", "str", "(I)Ljava/lang/String;"⟩ : MethodName)) hown3 (mvT hZ3 (hw _ (List.mem_of_getElem? (i := 0) rfl))) (mvT hZ3 (hw _ (List.mem_of_getElem? (i := 1) rfl))) (mvT hZ3 (hw _ (List.mem_of_getElem? (i := 2) rfl))) (mvT hZ3 (hw _ (List.mem_of_getElem? (i := 3) rfl))) (by decide) (backOfSH (W := 0) (rm1 l Z a0 hw [] oQ zc T3.heap n0 Z3 f3_1 O2 P5) hZ3 (hw _ (List.mem_of_getElem? (i := 3) rfl)) (hw _ (List.mem_of_getElem? (i := 2) rfl)) (by decide) (by decide) hEL CR3.1) (g := (mkF m 75 #[.val (.int p1), .val (.int p2), .val (.int p3), .val (.int p4), .val (.int p5), .val (.int p6), .val (.int sQ), .val (.int oQ), .val (.int r1), .val (.int r2), .val (.ref x1), .val (.ref x2), .val (.ref x3), .unset, .unset, .unset, .unset, .unset, .unset, .unset, .unset] [(.int oQ)])) rfl (by rw [hml]; rfl) (argsL := [(.int oQ)]) (rest := []) (lenOf pd_5 rfl) rfl (by show 2 * 0 + _ ≤ _; exact Nat.le_of_eq rfl) (hb hby at_75) (fun _ _ => ⟨rfl, rfl, (by first | decide | exact Nat.le_of_ble_eq_true rfl), (by first | decide | exact Nat.le_of_ble_eq_true rfl)⟩)
  dsimp only [Pt.U, Pt.locs, Pt.cells, Pt.slots] at X4 l4 y4 z4 st4 hQ4 hs4 hg4 hC4
  obtain ⟨x4, rfl, N4, K4, hx4, T4x⟩ := hQ4
  have X4 := own_sn X4 (k' := 24) (n' := 48) y4 z4
  have NF4 := own_fr l4 NF3 N4
  obtain ⟨XR4, hS4, hZ4, hown4⟩ := rebS hS3 (by exact hk3) X4 hs4 hg4 hZ3 hown3
  have CR4 := CR3.trans hC4
  have f4_1 := f3_1.keep K4 (all0)
  have f4_2 := f3_2.keep0 K4
  have f4_3 := f3_3.keep0 K4
  have f4_4 := T3x.keep0 K4
  have Z4 : n0 ≤ T4.heap.size := Nat.le_trans Z3 K4.1
  have KK4 := Keep.trans KK3 K4 (fun _ q => nomatch q)
  have hk4 : T4.heap.size ≤ T4.heap.size := Nat.le_refl _
  refine own_go (fun _ k => st4.trans k) ?_
  show own_Gl p.tables e below F (T4.setTop (mkF m 78 #[.val (.int p1), .val (.int p2), .val (.int p3), .val (.int p4), .val (.int p5), .val (.int p6), .val (.int sQ), .val (.int oQ), .val (.int r1), .val (.int r2), .val (.ref x1), .val (.ref x2), .val (.ref x3), .unset, .unset, .unset, .unset, .unset, .unset, .unset, .unset] [(.ref x4)]))
  refine own_go (fun _ k => XS.astore XR4.here hx rfl (hb hby at_78) rfl rfl (l' := #[.val (.int p1), .val (.int p2), .val (.int p3), .val (.int p4), .val (.int p5), .val (.int p6), .val (.int sQ), .val (.int oQ), .val (.int r1), .val (.int r2), .val (.ref x1), .val (.ref x2), .val (.ref x3), .val (.ref x4), .unset, .unset, .unset, .unset, .unset, .unset, .unset]) rfl k) ?_
  show own_Gl p.tables e below F (T4.setTop (mkF m 80 #[.val (.int p1), .val (.int p2), .val (.int p3), .val (.int p4), .val (.int p5), .val (.int p6), .val (.int sQ), .val (.int oQ), .val (.int r1), .val (.int r2), .val (.ref x1), .val (.ref x2), .val (.ref x3), .val (.ref x4), .unset, .unset, .unset, .unset, .unset, .unset, .unset] []))
  refine own_go (fun _ k => XS.iload XR4.here hx rfl (hb hby at_80) rfl k) ?_
  show own_Gl p.tables e below F (T4.setTop (mkF m 82 #[.val (.int p1), .val (.int p2), .val (.int p3), .val (.int p4), .val (.int p5), .val (.int p6), .val (.int sQ), .val (.int oQ), .val (.int r1), .val (.int r2), .val (.ref x1), .val (.ref x2), .val (.ref x3), .val (.ref x4), .unset, .unset, .unset, .unset, .unset, .unset, .unset] [(.int r1)]))
  obtain ⟨_, _, ⟨T5, L5, k5, n5⟩, -, X5, ⟨Lc5, hQ5, l5, y5, z5⟩, st5⟩ := Jvm.LawKit.callS XR4 hx (y := (⟨"com/example/cores_from_twigs/coresfromtwigs/constraints/ConstraintEqualsPinLaw", "rel", "(I)Lcom/example/cores_from_twigs/coresfromtwigs/constraints/Relation;"⟩ : MethodName)) hown4 (mvT hZ4 (hw _ (List.mem_of_getElem? (i := 40) rfl))) (mvT hZ4 (hw _ (List.mem_of_getElem? (i := 41) rfl))) (mvT hZ4 (hw _ (List.mem_of_getElem? (i := 2) rfl))) (mvT hZ4 (hw _ (List.mem_of_getElem? (i := 42) rfl))) (by decide) (backOf (W := 0) (rm9 l Z a0 hw [] r1 o0 o1 o2 o3 T4.heap n0 Z4 f4_1 S0 S1 S2 S3 hr1) hZ4 (hw _ (List.mem_of_getElem? (i := 42) rfl)) (hw _ (List.mem_of_getElem? (i := 2) rfl)) (by decide) (by decide)) (g := (mkF m 82 #[.val (.int p1), .val (.int p2), .val (.int p3), .val (.int p4), .val (.int p5), .val (.int p6), .val (.int sQ), .val (.int oQ), .val (.int r1), .val (.int r2), .val (.ref x1), .val (.ref x2), .val (.ref x3), .val (.ref x4), .unset, .unset, .unset, .unset, .unset, .unset, .unset] [(.int r1)])) rfl (by rw [hml]; rfl) (argsL := [(.int r1)]) (rest := []) (lenOf pd_6 rfl) rfl (by show 2 * 0 + _ ≤ _; exact Nat.le_of_eq rfl) (hb hby at_82) (fun _ _ => ⟨rfl, rfl, (by first | decide | exact Nat.le_of_ble_eq_true rfl), (by first | decide | exact Nat.le_of_ble_eq_true rfl)⟩)
  dsimp only [Pt.U, Pt.locs, Pt.cells, Pt.slots] at X5 l5 y5 z5 st5 hQ5
  obtain ⟨rfl, N5, e5⟩ := hQ5
  have X5 := own_sn X5 (k' := 24) (n' := 48) y5 z5
  have NF5 := own_fr l5 NF4 N5
  refine own_go st5 ?_
  show own_Gl p.tables e below F (T5.setTop (mkF m 85 #[.val (.int p1), .val (.int p2), .val (.int p3), .val (.int p4), .val (.int p5), .val (.int p6), .val (.int sQ), .val (.int oQ), .val (.int r1), .val (.int r2), .val (.ref x1), .val (.ref x2), .val (.ref x3), .val (.ref x4), .unset, .unset, .unset, .unset, .unset, .unset, .unset] [(.ref (own_rel o0 o1 o2 o3 r1))]))
  refine own_go (fun _ k => XS.astore X5.here hx rfl (hb hby at_85) rfl rfl (l' := #[.val (.int p1), .val (.int p2), .val (.int p3), .val (.int p4), .val (.int p5), .val (.int p6), .val (.int sQ), .val (.int oQ), .val (.int r1), .val (.int r2), .val (.ref x1), .val (.ref x2), .val (.ref x3), .val (.ref x4), .val (.ref (own_rel o0 o1 o2 o3 r1)), .unset, .unset, .unset, .unset, .unset, .unset]) rfl k) ?_
  show own_Gl p.tables e below F (T5.setTop (mkF m 87 #[.val (.int p1), .val (.int p2), .val (.int p3), .val (.int p4), .val (.int p5), .val (.int p6), .val (.int sQ), .val (.int oQ), .val (.int r1), .val (.int r2), .val (.ref x1), .val (.ref x2), .val (.ref x3), .val (.ref x4), .val (.ref (own_rel o0 o1 o2 o3 r1)), .unset, .unset, .unset, .unset, .unset, .unset] []))
  refine own_go (fun _ k => XS.iload X5.here hx rfl (hb hby at_87) rfl k) ?_
  show own_Gl p.tables e below F (T5.setTop (mkF m 89 #[.val (.int p1), .val (.int p2), .val (.int p3), .val (.int p4), .val (.int p5), .val (.int p6), .val (.int sQ), .val (.int oQ), .val (.int r1), .val (.int r2), .val (.ref x1), .val (.ref x2), .val (.ref x3), .val (.ref x4), .val (.ref (own_rel o0 o1 o2 o3 r1)), .unset, .unset, .unset, .unset, .unset, .unset] [(.int r2)]))
  obtain ⟨_, _, ⟨T6, L6, k6, n6⟩, -, X6, ⟨Lc6, hQ6, l6, y6, z6⟩, st6⟩ := Jvm.LawKit.callS X5 hx (y := (⟨"com/example/cores_from_twigs/coresfromtwigs/constraints/ConstraintEqualsPinLaw", "rel", "(I)Lcom/example/cores_from_twigs/coresfromtwigs/constraints/Relation;"⟩ : MethodName)) hown4 (mvT hZ4 (hw _ (List.mem_of_getElem? (i := 40) rfl))) (mvT hZ4 (hw _ (List.mem_of_getElem? (i := 41) rfl))) (mvT hZ4 (hw _ (List.mem_of_getElem? (i := 2) rfl))) (mvT hZ4 (hw _ (List.mem_of_getElem? (i := 42) rfl))) (by decide) (backOf (W := 0) (rm9 l Z a0 hw [] r2 o0 o1 o2 o3 T4.heap n0 Z4 f4_1 S0 S1 S2 S3 hr2) hZ4 (hw _ (List.mem_of_getElem? (i := 42) rfl)) (hw _ (List.mem_of_getElem? (i := 2) rfl)) (by decide) (by decide)) (g := (mkF m 89 #[.val (.int p1), .val (.int p2), .val (.int p3), .val (.int p4), .val (.int p5), .val (.int p6), .val (.int sQ), .val (.int oQ), .val (.int r1), .val (.int r2), .val (.ref x1), .val (.ref x2), .val (.ref x3), .val (.ref x4), .val (.ref (own_rel o0 o1 o2 o3 r1)), .unset, .unset, .unset, .unset, .unset, .unset] [(.int r2)])) rfl (by rw [hml]; rfl) (argsL := [(.int r2)]) (rest := []) (lenOf pd_6 rfl) rfl (by show 2 * 0 + _ ≤ _; exact Nat.le_of_eq rfl) (hb hby at_89) (fun _ _ => ⟨rfl, e5, (by first | decide | exact Nat.le_of_ble_eq_true rfl), (by first | decide | exact Nat.le_of_ble_eq_true rfl)⟩)
  dsimp only [Pt.U, Pt.locs, Pt.cells, Pt.slots] at X6 l6 y6 z6 st6 hQ6
  obtain ⟨rfl, N6, e6⟩ := hQ6
  have X6 := own_sn X6 (k' := 24) (n' := 48) y6 z6
  have NF6 := own_fr l6 NF5 N6
  refine own_go st6 ?_
  show own_Gl p.tables e below F (T6.setTop (mkF m 92 #[.val (.int p1), .val (.int p2), .val (.int p3), .val (.int p4), .val (.int p5), .val (.int p6), .val (.int sQ), .val (.int oQ), .val (.int r1), .val (.int r2), .val (.ref x1), .val (.ref x2), .val (.ref x3), .val (.ref x4), .val (.ref (own_rel o0 o1 o2 o3 r1)), .unset, .unset, .unset, .unset, .unset, .unset] [(.ref (own_rel o0 o1 o2 o3 r2))]))
  have hE1 : Exa Z Z.heap (own_rel o0 o1 o2 o3 r1) "com/example/cores_from_twigs/coresfromtwigs/constraints/Relation" := by rcases hr1 with rfl | rfl | rfl | rfl <;> first | exact X0x | exact X1x | exact X2x | exact X3x
  have hE2 : Exa Z Z.heap (own_rel o0 o1 o2 o3 r2) "com/example/cores_from_twigs/coresfromtwigs/constraints/Relation" := by rcases hr2 with rfl | rfl | rfl | rfl <;> first | exact X0x | exact X1x | exact X2x | exact X3x
  have hRI := own_rel_inj n01 n02 n03 n12 n13 n23 hr1 hr2
  refine own_go (fun _ k => XS.astore X6.here hx rfl (hb hby at_92) rfl rfl (l' := #[.val (.int p1), .val (.int p2), .val (.int p3), .val (.int p4), .val (.int p5), .val (.int p6), .val (.int sQ), .val (.int oQ), .val (.int r1), .val (.int r2), .val (.ref x1), .val (.ref x2), .val (.ref x3), .val (.ref x4), .val (.ref (own_rel o0 o1 o2 o3 r1)), .val (.ref (own_rel o0 o1 o2 o3 r2)), .unset, .unset, .unset, .unset, .unset]) rfl k) ?_
  show own_Gl p.tables e below F (T6.setTop (mkF m 94 #[.val (.int p1), .val (.int p2), .val (.int p3), .val (.int p4), .val (.int p5), .val (.int p6), .val (.int sQ), .val (.int oQ), .val (.int r1), .val (.int r2), .val (.ref x1), .val (.ref x2), .val (.ref x3), .val (.ref x4), .val (.ref (own_rel o0 o1 o2 o3 r1)), .val (.ref (own_rel o0 o1 o2 o3 r2)), .unset, .unset, .unset, .unset, .unset] []))
  generalize hq1 : (own_rel o0 o1 o2 o3 r1) = R1 at hE1 hRI ⊢
  generalize hq2 : (own_rel o0 o1 o2 o3 r2) = R2 at hE2 hRI ⊢
  show own_Gl p.tables e below F (T6.setTop (mkF m 94 #[.val (.int p1), .val (.int p2), .val (.int p3), .val (.int p4), .val (.int p5), .val (.int p6), .val (.int sQ), .val (.int oQ), .val (.int r1), .val (.int r2), .val (.ref x1), .val (.ref x2), .val (.ref x3), .val (.ref x4), .val (.ref R1), .val (.ref R2), .unset, .unset, .unset, .unset, .unset] []))
  obtain ⟨T7, h7, X7, e7, E7, A7, D7, -, st7⟩ := newO X6 hx hZ4 hown4 (hw _ (List.mem_of_getElem? (i := 46) rfl)) (hw _ (List.mem_of_getElem? (i := 47) rfl)) (hw _ (List.mem_of_getElem? (i := 48) rfl)) e6 (g := (mkF m 94 #[.val (.int p1), .val (.int p2), .val (.int p3), .val (.int p4), .val (.int p5), .val (.int p6), .val (.int sQ), .val (.int oQ), .val (.int r1), .val (.int r2), .val (.ref x1), .val (.ref x2), .val (.ref x3), .val (.ref x4), .val (.ref R1), .val (.ref R2), .unset, .unset, .unset, .unset, .unset] [])) rfl (hb hby at_94) (by first | decide | exact Nat.le_of_ble_eq_true rfl) (by first | decide | exact Nat.le_of_ble_eq_true rfl)
  obtain ⟨b7, g7⟩ : ∃ z, z = T4.heap.size := ⟨_, rfl⟩
  rw [← g7] at A7 D7 st7
  have ne_x1_b7 : x1 ≠ b7 := Nat.ne_of_lt (Nat.lt_of_lt_of_le f4_2.lt (Nat.le_of_eq g7.symm))
  have ne_x2_b7 : x2 ≠ b7 := Nat.ne_of_lt (Nat.lt_of_lt_of_le f4_3.lt (Nat.le_of_eq g7.symm))
  have ne_x3_b7 : x3 ≠ b7 := Nat.ne_of_lt (Nat.lt_of_lt_of_le f4_4.lt (Nat.le_of_eq g7.symm))
  have ne_x4_b7 : x4 ≠ b7 := Nat.ne_of_lt (Nat.lt_of_lt_of_le T4x.lt (Nat.le_of_eq g7.symm))
  have ge_b7 : n0 ≤ b7 := Nat.le_trans Z4 (Nat.le_of_eq g7.symm)
  have sz_b7 : h0.size ≤ b7 := Nat.le_trans (KK4).1 (Nat.le_of_eq g7.symm)
  have sf_b7 := Safe.ext E7 CR4.1 (Safe.new (Z := Z) (EL := own_EL) (vm := T4.vm) (Nat.le_of_eq g7.symm))
  have f7_0 := f4_1.ext E7
  have f7_1 := f4_2.ext E7
  have f7_2 := f4_3.ext E7
  have f7_3 := f4_4.ext E7
  have f7_4 := T4x.ext E7
  have Z7 : n0 ≤ h7.size := Nat.le_trans Z4 E7.1
  have K7 := Keep.ext KK4 E7
  have CR7 := CR4.trans (CHr.ext E7 CR4.1)
  have hk7 : T4.heap.size ≤ h7.size := Nat.le_trans hk4 E7.1
  have F7_subject : Fld Z h7 b7 "com/example/cores_from_twigs/coresfromtwigs/constraints/Constraint" "subject" "Ljava/lang/String;" .null := D7 (Or.inr (hw _ (List.mem_of_getElem? (i := 60) rfl))) (ty := (.object "java/lang/String")) (by decide)
  have F7_relation : Fld Z h7 b7 "com/example/cores_from_twigs/coresfromtwigs/constraints/Constraint" "relation" "Lcom/example/cores_from_twigs/coresfromtwigs/constraints/Relation;" .null := D7 (Or.inr (hw _ (List.mem_of_getElem? (i := 65) rfl))) (ty := (.object "com/example/cores_from_twigs/coresfromtwigs/constraints/Relation")) (by decide)
  have F7_object : Fld Z h7 b7 "com/example/cores_from_twigs/coresfromtwigs/constraints/Constraint" "object" "Ljava/lang/String;" .null := D7 (Or.inr (hw _ (List.mem_of_getElem? (i := 68) rfl))) (ty := (.object "java/lang/String")) (by decide)
  have X7 : Stand _ _ _ _ _ _ _ _ _ _ _ _ 25 51 := X7
  refine own_go st7 ?_
  show own_Gl p.tables e below F (T7.setTop (mkF m 97 #[.val (.int p1), .val (.int p2), .val (.int p3), .val (.int p4), .val (.int p5), .val (.int p6), .val (.int sQ), .val (.int oQ), .val (.int r1), .val (.int r2), .val (.ref x1), .val (.ref x2), .val (.ref x3), .val (.ref x4), .val (.ref R1), .val (.ref R2), .unset, .unset, .unset, .unset, .unset] [(.ref b7)]))
  refine own_go (fun _ k => XS.dup X7.here hx rfl (hb hby at_97) rfl rfl k) ?_
  show own_Gl p.tables e below F (T7.setTop (mkF m 98 #[.val (.int p1), .val (.int p2), .val (.int p3), .val (.int p4), .val (.int p5), .val (.int p6), .val (.int sQ), .val (.int oQ), .val (.int r1), .val (.int r2), .val (.ref x1), .val (.ref x2), .val (.ref x3), .val (.ref x4), .val (.ref R1), .val (.ref R2), .unset, .unset, .unset, .unset, .unset] [(.ref b7), (.ref b7)]))
  refine own_go (fun _ k => XS.aload X7.here hx rfl (hb hby at_98) rfl rfl k) ?_
  show own_Gl p.tables e below F (T7.setTop (mkF m 100 #[.val (.int p1), .val (.int p2), .val (.int p3), .val (.int p4), .val (.int p5), .val (.int p6), .val (.int sQ), .val (.int oQ), .val (.int r1), .val (.int r2), .val (.ref x1), .val (.ref x2), .val (.ref x3), .val (.ref x4), .val (.ref R1), .val (.ref R2), .unset, .unset, .unset, .unset, .unset] [(.ref x1), (.ref b7), (.ref b7)]))
  refine own_go (fun _ k => XS.aload X7.here hx rfl (hb hby at_100) rfl rfl k) ?_
  show own_Gl p.tables e below F (T7.setTop (mkF m 102 #[.val (.int p1), .val (.int p2), .val (.int p3), .val (.int p4), .val (.int p5), .val (.int p6), .val (.int sQ), .val (.int oQ), .val (.int r1), .val (.int r2), .val (.ref x1), .val (.ref x2), .val (.ref x3), .val (.ref x4), .val (.ref R1), .val (.ref R2), .unset, .unset, .unset, .unset, .unset] [(.ref R1), (.ref x1), (.ref b7), (.ref b7)]))
  refine own_go (fun _ k => XS.aload X7.here hx rfl (hb hby at_102) rfl rfl k) ?_
  show own_Gl p.tables e below F (T7.setTop (mkF m 104 #[.val (.int p1), .val (.int p2), .val (.int p3), .val (.int p4), .val (.int p5), .val (.int p6), .val (.int sQ), .val (.int oQ), .val (.int r1), .val (.int r2), .val (.ref x1), .val (.ref x2), .val (.ref x3), .val (.ref x4), .val (.ref R1), .val (.ref R2), .unset, .unset, .unset, .unset, .unset] [(.ref x3), (.ref R1), (.ref x1), (.ref b7), (.ref b7)]))
  have eR := hE1.ext f7_0.2
  obtain ⟨_, _, ⟨T8, L8, k8, n8⟩, -, X8, hs8, hg8, ⟨Lc8, hQ8, l8, y8, z8, hC8⟩, st8⟩ := X7.specialBackS hx (y := (⟨"com/example/cores_from_twigs/coresfromtwigs/constraints/Constraint", "<init>", "(Ljava/lang/String;Lcom/example/cores_from_twigs/coresfromtwigs/constraints/Relation;Ljava/lang/String;)V"⟩ : MethodName)) rfl hown4 (mvT hZ4 (hw _ (List.mem_of_getElem? (i := 49) rfl))) (mvT hZ4 (hw _ (List.mem_of_getElem? (i := 50) rfl))) (mvT hZ4 (hw _ (List.mem_of_getElem? (i := 51) rfl))) (by decide) (backOfSH (W := 1) (rm10 l Z a0 hw [] b7 x1 R1 x3  h7 n0 Z7 A7 F7_subject F7_relation F7_object ge_b7 f7_1.1 eR f7_3.1) hZ4 (hw _ (List.mem_of_getElem? (i := 51) rfl)) (hw _ (List.mem_of_getElem? (i := 48) rfl)) (by decide) (by decide) hEL CR7.1) (g := (mkF m 104 #[.val (.int p1), .val (.int p2), .val (.int p3), .val (.int p4), .val (.int p5), .val (.int p6), .val (.int sQ), .val (.int oQ), .val (.int r1), .val (.int r2), .val (.ref x1), .val (.ref x2), .val (.ref x3), .val (.ref x4), .val (.ref R1), .val (.ref R2), .unset, .unset, .unset, .unset, .unset] [(.ref x3), (.ref R1), (.ref x1), (.ref b7), (.ref b7)])) rfl (by rw [hml]; rfl) (Steps.refl _) (a := b7) (argsL := [(.ref x1), (.ref R1), (.ref x3)]) (rest := [(.ref b7)]) (lenOf pd_7 rfl) rfl (by show 2 * 0 + _ ≤ _; exact Nat.le_of_eq rfl) (hb hby at_104) (fun _ _ => ⟨rfl, e7, (by first | decide | exact Nat.le_of_ble_eq_true rfl), (by first | decide | exact Nat.le_of_ble_eq_true rfl)⟩)
  dsimp only [Pt.U, Pt.locs, Pt.cells, Pt.slots] at X8 l8 y8 z8 st8 hQ8 hs8 hg8 hC8
  obtain ⟨rfl, N8, K8, GE8, GS8, GR8, GO8⟩ := hQ8
  have X8 := own_sn X8 (k' := 31) (n' := 147) y8 z8
  have NF8 := own_fr l8 NF6 N8
  obtain ⟨XR8, hS8, hZ8, hown8⟩ := rebS hS4 (by rw [e7]; exact hk7) X8 hs8 hg8 hZ4 hown4
  have CR8 := CR7.trans hC8
  have sf8_0 := hC8.safe A7.lt sf_b7
  have f8_1 := f7_0.keep K8 (allS ge_b7 (all0))
  have f8_2 := f7_1.keep1 K8 ne_x1_b7 A7 (hw _ (List.mem_of_getElem? (i := 47) rfl))
  have f8_3 := f7_2.keep1 K8 ne_x2_b7 A7 (hw _ (List.mem_of_getElem? (i := 47) rfl))
  have f8_4 := f7_3.keep1 K8 ne_x3_b7 A7 (hw _ (List.mem_of_getElem? (i := 47) rfl))
  have f8_5 := f7_4.keep1 K8 ne_x4_b7 A7 (hw _ (List.mem_of_getElem? (i := 47) rfl))
  have f8_6 := A7.keep K8
  have Z8 : n0 ≤ T8.heap.size := Nat.le_trans Z7 K8.1
  have KK8 := Keep.trans K7 K8 (by intro z hz; simp at hz; rcases hz with rfl; all_goals first | (left; simp; done) | (right; assumption))
  have hk8 : T8.heap.size ≤ T8.heap.size := Nat.le_refl _
  refine own_go (fun _ k => st8.trans k) ?_
  show own_Gl p.tables e below F (T8.setTop (mkF m 107 #[.val (.int p1), .val (.int p2), .val (.int p3), .val (.int p4), .val (.int p5), .val (.int p6), .val (.int sQ), .val (.int oQ), .val (.int r1), .val (.int r2), .val (.ref x1), .val (.ref x2), .val (.ref x3), .val (.ref x4), .val (.ref R1), .val (.ref R2), .unset, .unset, .unset, .unset, .unset] [(.ref b7)]))
  refine own_go (fun _ k => XS.astore XR8.here hx rfl (hb hby at_107) rfl rfl (l' := #[.val (.int p1), .val (.int p2), .val (.int p3), .val (.int p4), .val (.int p5), .val (.int p6), .val (.int sQ), .val (.int oQ), .val (.int r1), .val (.int r2), .val (.ref x1), .val (.ref x2), .val (.ref x3), .val (.ref x4), .val (.ref R1), .val (.ref R2), .val (.ref b7), .unset, .unset, .unset, .unset]) rfl k) ?_
  show own_Gl p.tables e below F (T8.setTop (mkF m 109 #[.val (.int p1), .val (.int p2), .val (.int p3), .val (.int p4), .val (.int p5), .val (.int p6), .val (.int sQ), .val (.int oQ), .val (.int r1), .val (.int r2), .val (.ref x1), .val (.ref x2), .val (.ref x3), .val (.ref x4), .val (.ref R1), .val (.ref R2), .val (.ref b7), .unset, .unset, .unset, .unset] []))
  obtain ⟨T9, h9, X9, e9, E9, A9, D9, -, st9⟩ := newO XR8 hx hZ8 hown8 (hw _ (List.mem_of_getElem? (i := 46) rfl)) (hw _ (List.mem_of_getElem? (i := 47) rfl)) (hw _ (List.mem_of_getElem? (i := 48) rfl)) rfl (g := (mkF m 109 #[.val (.int p1), .val (.int p2), .val (.int p3), .val (.int p4), .val (.int p5), .val (.int p6), .val (.int sQ), .val (.int oQ), .val (.int r1), .val (.int r2), .val (.ref x1), .val (.ref x2), .val (.ref x3), .val (.ref x4), .val (.ref R1), .val (.ref R2), .val (.ref b7), .unset, .unset, .unset, .unset] [])) rfl (hb hby at_109) (by first | decide | exact Nat.le_of_ble_eq_true rfl) (by first | decide | exact Nat.le_of_ble_eq_true rfl)
  obtain ⟨b9, g9⟩ : ∃ z, z = T8.heap.size := ⟨_, rfl⟩
  rw [← g9] at A9 D9 st9
  have ne_x1_b9 : x1 ≠ b9 := Nat.ne_of_lt (Nat.lt_of_lt_of_le f8_2.lt (Nat.le_of_eq g9.symm))
  have ne_x2_b9 : x2 ≠ b9 := Nat.ne_of_lt (Nat.lt_of_lt_of_le f8_3.lt (Nat.le_of_eq g9.symm))
  have ne_x3_b9 : x3 ≠ b9 := Nat.ne_of_lt (Nat.lt_of_lt_of_le f8_4.lt (Nat.le_of_eq g9.symm))
  have ne_x4_b9 : x4 ≠ b9 := Nat.ne_of_lt (Nat.lt_of_lt_of_le f8_5.lt (Nat.le_of_eq g9.symm))
  have ne_b7_b9 : b7 ≠ b9 := Nat.ne_of_lt (Nat.lt_of_lt_of_le GE8.lt (Nat.le_of_eq g9.symm))
  have ge_b9 : n0 ≤ b9 := Nat.le_trans Z8 (Nat.le_of_eq g9.symm)
  have sz_b9 : h0.size ≤ b9 := Nat.le_trans (KK8).1 (Nat.le_of_eq g9.symm)
  have sf_b9 := Safe.ext E9 CR8.1 (Safe.new (Z := Z) (EL := own_EL) (vm := T8.vm) (Nat.le_of_eq g9.symm))
  have f9_0 := f8_1.ext E9
  have f9_1 := f8_2.ext E9
  have f9_2 := f8_3.ext E9
  have f9_3 := f8_4.ext E9
  have f9_4 := f8_5.ext E9
  have f9_5 := GE8.ext E9
  have f9_6 := GS8.ext E9
  have f9_7 := GR8.ext E9
  have f9_8 := GO8.ext E9
  have Z9 : n0 ≤ h9.size := Nat.le_trans Z8 E9.1
  have K9 := Keep.ext KK8 E9
  have sf9_0 := Safe.ext E9 CR8.1 sf8_0
  have CR9 := CR8.trans (CHr.ext E9 CR8.1)
  have hk9 : T8.heap.size ≤ h9.size := Nat.le_trans hk8 E9.1
  have F9_subject : Fld Z h9 b9 "com/example/cores_from_twigs/coresfromtwigs/constraints/Constraint" "subject" "Ljava/lang/String;" .null := D9 (Or.inr (hw _ (List.mem_of_getElem? (i := 60) rfl))) (ty := (.object "java/lang/String")) (by decide)
  have F9_relation : Fld Z h9 b9 "com/example/cores_from_twigs/coresfromtwigs/constraints/Constraint" "relation" "Lcom/example/cores_from_twigs/coresfromtwigs/constraints/Relation;" .null := D9 (Or.inr (hw _ (List.mem_of_getElem? (i := 65) rfl))) (ty := (.object "com/example/cores_from_twigs/coresfromtwigs/constraints/Relation")) (by decide)
  have F9_object : Fld Z h9 b9 "com/example/cores_from_twigs/coresfromtwigs/constraints/Constraint" "object" "Ljava/lang/String;" .null := D9 (Or.inr (hw _ (List.mem_of_getElem? (i := 68) rfl))) (ty := (.object "java/lang/String")) (by decide)
  have X9 : Stand _ _ _ _ _ _ _ _ _ _ _ _ 32 150 := X9
  refine own_go st9 ?_
  show own_Gl p.tables e below F (T9.setTop (mkF m 112 #[.val (.int p1), .val (.int p2), .val (.int p3), .val (.int p4), .val (.int p5), .val (.int p6), .val (.int sQ), .val (.int oQ), .val (.int r1), .val (.int r2), .val (.ref x1), .val (.ref x2), .val (.ref x3), .val (.ref x4), .val (.ref R1), .val (.ref R2), .val (.ref b7), .unset, .unset, .unset, .unset] [(.ref b9)]))
  refine own_go (fun _ k => XS.dup X9.here hx rfl (hb hby at_112) rfl rfl k) ?_
  show own_Gl p.tables e below F (T9.setTop (mkF m 113 #[.val (.int p1), .val (.int p2), .val (.int p3), .val (.int p4), .val (.int p5), .val (.int p6), .val (.int sQ), .val (.int oQ), .val (.int r1), .val (.int r2), .val (.ref x1), .val (.ref x2), .val (.ref x3), .val (.ref x4), .val (.ref R1), .val (.ref R2), .val (.ref b7), .unset, .unset, .unset, .unset] [(.ref b9), (.ref b9)]))
  refine own_go (fun _ k => XS.aload X9.here hx rfl (hb hby at_113) rfl rfl k) ?_
  show own_Gl p.tables e below F (T9.setTop (mkF m 115 #[.val (.int p1), .val (.int p2), .val (.int p3), .val (.int p4), .val (.int p5), .val (.int p6), .val (.int sQ), .val (.int oQ), .val (.int r1), .val (.int r2), .val (.ref x1), .val (.ref x2), .val (.ref x3), .val (.ref x4), .val (.ref R1), .val (.ref R2), .val (.ref b7), .unset, .unset, .unset, .unset] [(.ref x2), (.ref b9), (.ref b9)]))
  refine own_go (fun _ k => XS.aload X9.here hx rfl (hb hby at_115) rfl rfl k) ?_
  show own_Gl p.tables e below F (T9.setTop (mkF m 117 #[.val (.int p1), .val (.int p2), .val (.int p3), .val (.int p4), .val (.int p5), .val (.int p6), .val (.int sQ), .val (.int oQ), .val (.int r1), .val (.int r2), .val (.ref x1), .val (.ref x2), .val (.ref x3), .val (.ref x4), .val (.ref R1), .val (.ref R2), .val (.ref b7), .unset, .unset, .unset, .unset] [(.ref R2), (.ref x2), (.ref b9), (.ref b9)]))
  refine own_go (fun _ k => XS.aload X9.here hx rfl (hb hby at_117) rfl rfl k) ?_
  show own_Gl p.tables e below F (T9.setTop (mkF m 119 #[.val (.int p1), .val (.int p2), .val (.int p3), .val (.int p4), .val (.int p5), .val (.int p6), .val (.int sQ), .val (.int oQ), .val (.int r1), .val (.int r2), .val (.ref x1), .val (.ref x2), .val (.ref x3), .val (.ref x4), .val (.ref R1), .val (.ref R2), .val (.ref b7), .unset, .unset, .unset, .unset] [(.ref x4), (.ref R2), (.ref x2), (.ref b9), (.ref b9)]))
  have eR := hE2.ext f9_0.2
  obtain ⟨_, _, ⟨T10, L10, k10, n10⟩, -, X10, hs10, hg10, ⟨Lc10, hQ10, l10, y10, z10, hC10⟩, st10⟩ := X9.specialBackS hx (y := (⟨"com/example/cores_from_twigs/coresfromtwigs/constraints/Constraint", "<init>", "(Ljava/lang/String;Lcom/example/cores_from_twigs/coresfromtwigs/constraints/Relation;Ljava/lang/String;)V"⟩ : MethodName)) rfl hown8 (mvT hZ8 (hw _ (List.mem_of_getElem? (i := 49) rfl))) (mvT hZ8 (hw _ (List.mem_of_getElem? (i := 50) rfl))) (mvT hZ8 (hw _ (List.mem_of_getElem? (i := 51) rfl))) (by decide) (backOfSH (W := 1) (rm10 l Z a0 hw [] b9 x2 R2 x4  h9 n0 Z9 A9 F9_subject F9_relation F9_object ge_b9 f9_2.1 eR f9_4.1) hZ8 (hw _ (List.mem_of_getElem? (i := 51) rfl)) (hw _ (List.mem_of_getElem? (i := 48) rfl)) (by decide) (by decide) hEL CR9.1) (g := (mkF m 119 #[.val (.int p1), .val (.int p2), .val (.int p3), .val (.int p4), .val (.int p5), .val (.int p6), .val (.int sQ), .val (.int oQ), .val (.int r1), .val (.int r2), .val (.ref x1), .val (.ref x2), .val (.ref x3), .val (.ref x4), .val (.ref R1), .val (.ref R2), .val (.ref b7), .unset, .unset, .unset, .unset] [(.ref x4), (.ref R2), (.ref x2), (.ref b9), (.ref b9)])) rfl (by rw [hml]; rfl) (Steps.refl _) (a := b9) (argsL := [(.ref x2), (.ref R2), (.ref x4)]) (rest := [(.ref b9)]) (lenOf pd_7 rfl) rfl (by show 2 * 0 + _ ≤ _; exact Nat.le_of_eq rfl) (hb hby at_119) (fun _ _ => ⟨rfl, e9, (by first | decide | exact Nat.le_of_ble_eq_true rfl), (by first | decide | exact Nat.le_of_ble_eq_true rfl)⟩)
  dsimp only [Pt.U, Pt.locs, Pt.cells, Pt.slots] at X10 l10 y10 z10 st10 hQ10 hs10 hg10 hC10
  obtain ⟨rfl, N10, K10, GE10, GS10, GR10, GO10⟩ := hQ10
  have X10 := own_sn X10 (k' := 38) (n' := 246) y10 z10
  have NF10 := own_fr l10 NF8 N10
  obtain ⟨XR10, hS10, hZ10, hown10⟩ := rebS hS8 (by rw [e9]; exact hk9) X10 hs10 hg10 hZ8 hown8
  have CR10 := CR9.trans hC10
  have sf10_0 := hC10.safe f9_5.lt sf9_0
  have sf10_1 := hC10.safe A9.lt sf_b9
  have f10_1 := f9_0.keep K10 (allS ge_b9 (all0))
  have f10_2 := f9_1.keep1 K10 ne_x1_b9 A9 (hw _ (List.mem_of_getElem? (i := 47) rfl))
  have f10_3 := f9_2.keep1 K10 ne_x2_b9 A9 (hw _ (List.mem_of_getElem? (i := 47) rfl))
  have f10_4 := f9_3.keep1 K10 ne_x3_b9 A9 (hw _ (List.mem_of_getElem? (i := 47) rfl))
  have f10_5 := f9_4.keep1 K10 ne_x4_b9 A9 (hw _ (List.mem_of_getElem? (i := 47) rfl))
  have f10_6 := f9_5.keep K10
  have f10_7 := f9_6.keep K10 (ninS ne_b7_b9 nin0)
  have f10_8 := f9_7.keep K10 (ninS ne_b7_b9 nin0)
  have f10_9 := f9_8.keep K10 (ninS ne_b7_b9 nin0)
  have f10_10 := A9.keep K10
  have Z10 : n0 ≤ T10.heap.size := Nat.le_trans Z9 K10.1
  have KK10 := Keep.trans K9 K10 (by intro z hz; simp at hz; rcases hz with rfl; all_goals first | (left; simp; done) | (right; assumption))
  have hk10 : T10.heap.size ≤ T10.heap.size := Nat.le_refl _
  refine own_go (fun _ k => st10.trans k) ?_
  show own_Gl p.tables e below F (T10.setTop (mkF m 122 #[.val (.int p1), .val (.int p2), .val (.int p3), .val (.int p4), .val (.int p5), .val (.int p6), .val (.int sQ), .val (.int oQ), .val (.int r1), .val (.int r2), .val (.ref x1), .val (.ref x2), .val (.ref x3), .val (.ref x4), .val (.ref R1), .val (.ref R2), .val (.ref b7), .unset, .unset, .unset, .unset] [(.ref b9)]))
  refine own_go (fun _ k => XS.astore XR10.here hx rfl (hb hby at_122) rfl rfl (l' := #[.val (.int p1), .val (.int p2), .val (.int p3), .val (.int p4), .val (.int p5), .val (.int p6), .val (.int sQ), .val (.int oQ), .val (.int r1), .val (.int r2), .val (.ref x1), .val (.ref x2), .val (.ref x3), .val (.ref x4), .val (.ref R1), .val (.ref R2), .val (.ref b7), .val (.ref b9), .unset, .unset, .unset]) rfl k) ?_
  show own_Gl p.tables e below F (T10.setTop (mkF m 124 #[.val (.int p1), .val (.int p2), .val (.int p3), .val (.int p4), .val (.int p5), .val (.int p6), .val (.int sQ), .val (.int oQ), .val (.int r1), .val (.int r2), .val (.ref x1), .val (.ref x2), .val (.ref x3), .val (.ref x4), .val (.ref R1), .val (.ref R2), .val (.ref b7), .val (.ref b9), .unset, .unset, .unset] []))
  refine own_go (fun _ k => XS.iloadN XR10.here hx rfl (hb hby at_124) rfl k) ?_
  show own_Gl p.tables e below F (T10.setTop (mkF m 125 #[.val (.int p1), .val (.int p2), .val (.int p3), .val (.int p4), .val (.int p5), .val (.int p6), .val (.int sQ), .val (.int oQ), .val (.int r1), .val (.int r2), .val (.ref x1), .val (.ref x2), .val (.ref x3), .val (.ref x4), .val (.ref R1), .val (.ref R2), .val (.ref b7), .val (.ref b9), .unset, .unset, .unset] [(.int p1)]))
  refine own_go (fun _ k => XS.iload XR10.here hx rfl (hb hby at_125) rfl k) ?_
  show own_Gl p.tables e below F (T10.setTop (mkF m 127 #[.val (.int p1), .val (.int p2), .val (.int p3), .val (.int p4), .val (.int p5), .val (.int p6), .val (.int sQ), .val (.int oQ), .val (.int r1), .val (.int r2), .val (.ref x1), .val (.ref x2), .val (.ref x3), .val (.ref x4), .val (.ref R1), .val (.ref R2), .val (.ref b7), .val (.ref b9), .unset, .unset, .unset] [(.int sQ), (.int p1)]))
  have J154 : ∀ (TJ154 : State) (lJ154 : List Loc) (XJ154 : Stand p l e room_1 (s.setVm T10.vm) m #[(.int p1), (.int p2), (.int p3), (.int p4), (.int p5), (.int p6)] below meth c TJ154 lJ154 38 246) (eJ154 : TJ154.heap = T10.heap) (NJ154 : Fr n0 lJ154) (je : Int32), je = (own_e (own_cs p1) (own_cs sQ) R1 R2 (own_cs p3) (own_cs oQ)) → own_Gl p.tables e below F (TJ154.setTop (mkF m 154 #[.val (.int p1), .val (.int p2), .val (.int p3), .val (.int p4), .val (.int p5), .val (.int p6), .val (.int sQ), .val (.int oQ), .val (.int r1), .val (.int r2), .val (.ref x1), .val (.ref x2), .val (.ref x3), .val (.ref x4), .val (.ref R1), .val (.ref R2), .val (.ref b7), .val (.ref b9), .unset, .unset, .unset] [(.int je)])) := by
    intro TJ154 lJ154 XJ154 eJ154 NJ154 je hj
    show own_Gl p.tables e below F (TJ154.setTop (mkF m 154 #[.val (.int p1), .val (.int p2), .val (.int p3), .val (.int p4), .val (.int p5), .val (.int p6), .val (.int sQ), .val (.int oQ), .val (.int r1), .val (.int r2), .val (.ref x1), .val (.ref x2), .val (.ref x3), .val (.ref x4), .val (.ref R1), .val (.ref R2), .val (.ref b7), .val (.ref b9), .unset, .unset, .unset] [(.int je)]))
    refine own_go (fun _ k => XS.istore XJ154.here hx rfl (hb hby at_154) rfl (l' := #[.val (.int p1), .val (.int p2), .val (.int p3), .val (.int p4), .val (.int p5), .val (.int p6), .val (.int sQ), .val (.int oQ), .val (.int r1), .val (.int r2), .val (.ref x1), .val (.ref x2), .val (.ref x3), .val (.ref x4), .val (.ref R1), .val (.ref R2), .val (.ref b7), .val (.ref b9), .val (.int je), .unset, .unset]) rfl k) ?_
    show own_Gl p.tables e below F (TJ154.setTop (mkF m 156 #[.val (.int p1), .val (.int p2), .val (.int p3), .val (.int p4), .val (.int p5), .val (.int p6), .val (.int sQ), .val (.int oQ), .val (.int r1), .val (.int r2), .val (.ref x1), .val (.ref x2), .val (.ref x3), .val (.ref x4), .val (.ref R1), .val (.ref R2), .val (.ref b7), .val (.ref b9), .val (.int je), .unset, .unset] []))
    refine own_go (fun _ k => XS.aconstNull XJ154.here hx rfl (hb hby at_156) k) ?_
    show own_Gl p.tables e below F (TJ154.setTop (mkF m 157 #[.val (.int p1), .val (.int p2), .val (.int p3), .val (.int p4), .val (.int p5), .val (.int p6), .val (.int sQ), .val (.int oQ), .val (.int r1), .val (.int r2), .val (.ref x1), .val (.ref x2), .val (.ref x3), .val (.ref x4), .val (.ref R1), .val (.ref R2), .val (.ref b7), .val (.ref b9), .val (.int je), .unset, .unset] [.null]))
    refine own_go (fun _ k => XS.astore XJ154.here hx rfl (hb hby at_157) rfl rfl (l' := #[.val (.int p1), .val (.int p2), .val (.int p3), .val (.int p4), .val (.int p5), .val (.int p6), .val (.int sQ), .val (.int oQ), .val (.int r1), .val (.int r2), .val (.ref x1), .val (.ref x2), .val (.ref x3), .val (.ref x4), .val (.ref R1), .val (.ref R2), .val (.ref b7), .val (.ref b9), .val (.int je), .val .null, .unset]) rfl k) ?_
    show own_Gl p.tables e below F (TJ154.setTop (mkF m 159 #[.val (.int p1), .val (.int p2), .val (.int p3), .val (.int p4), .val (.int p5), .val (.int p6), .val (.int sQ), .val (.int oQ), .val (.int r1), .val (.int r2), .val (.ref x1), .val (.ref x2), .val (.ref x3), .val (.ref x4), .val (.ref R1), .val (.ref R2), .val (.ref b7), .val (.ref b9), .val (.int je), .val .null, .unset] []))
    refine own_go (fun _ k => XS.aload XJ154.here hx rfl (hb hby at_159) rfl rfl k) ?_
    show own_Gl p.tables e below F (TJ154.setTop (mkF m 161 #[.val (.int p1), .val (.int p2), .val (.int p3), .val (.int p4), .val (.int p5), .val (.int p6), .val (.int sQ), .val (.int oQ), .val (.int r1), .val (.int r2), .val (.ref x1), .val (.ref x2), .val (.ref x3), .val (.ref x4), .val (.ref R1), .val (.ref R2), .val (.ref b7), .val (.ref b9), .val (.int je), .val .null, .unset] [(.ref x1)]))
    refine own_go (fun _ k => XS.astore XJ154.here hx rfl (hb hby at_161) rfl rfl (l' := #[.val (.int p1), .val (.int p2), .val (.int p3), .val (.int p4), .val (.int p5), .val (.int p6), .val (.int sQ), .val (.int oQ), .val (.int r1), .val (.int r2), .val (.ref x1), .val (.ref x2), .val (.ref x3), .val (.ref x4), .val (.ref R1), .val (.ref R2), .val (.ref b7), .val (.ref b9), .val (.int je), .val .null, .val (.ref x1)]) rfl k) ?_
    show own_Gl p.tables e below F (TJ154.setTop (mkF m 163 #[.val (.int p1), .val (.int p2), .val (.int p3), .val (.int p4), .val (.int p5), .val (.int p6), .val (.int sQ), .val (.int oQ), .val (.int r1), .val (.int r2), .val (.ref x1), .val (.ref x2), .val (.ref x3), .val (.ref x4), .val (.ref R1), .val (.ref R2), .val (.ref b7), .val (.ref b9), .val (.int je), .val .null, .val (.ref x1)] []))
    refine own_go (fun _ k => XS.aload XJ154.here hx rfl (hb hby at_163) rfl rfl k) ?_
    show own_Gl p.tables e below F (TJ154.setTop (mkF m 165 #[.val (.int p1), .val (.int p2), .val (.int p3), .val (.int p4), .val (.int p5), .val (.int p6), .val (.int sQ), .val (.int oQ), .val (.int r1), .val (.int r2), .val (.ref x1), .val (.ref x2), .val (.ref x3), .val (.ref x4), .val (.ref R1), .val (.ref R2), .val (.ref b7), .val (.ref b9), .val (.int je), .val .null, .val (.ref x1)] [(.ref b7)]))
    refine own_go (fun _ k => XS.aload XJ154.here hx rfl (hb hby at_165) rfl rfl k) ?_
    show own_Gl p.tables e below F (TJ154.setTop (mkF m 167 #[.val (.int p1), .val (.int p2), .val (.int p3), .val (.int p4), .val (.int p5), .val (.int p6), .val (.int sQ), .val (.int oQ), .val (.int r1), .val (.int r2), .val (.ref x1), .val (.ref x2), .val (.ref x3), .val (.ref x4), .val (.ref R1), .val (.ref R2), .val (.ref b7), .val (.ref b9), .val (.int je), .val .null, .val (.ref x1)] [(.ref b9), (.ref b7)]))
    obtain ⟨cq11, kq11, q11a, q11b, q11c⟩ := isOf hZ10 eJ154 f10_6
    obtain ⟨_, _, ⟨T11, L11, k11, n11⟩, -, X11, ⟨Lc11, hQ11, l11, y11, z11⟩, st11⟩ := XJ154.virtualBack hx (y := (⟨"com/example/cores_from_twigs/coresfromtwigs/constraints/Constraint", "equals", "(Ljava/lang/Object;)Z"⟩ : MethodName)) (z := (⟨"com/example/cores_from_twigs/coresfromtwigs/constraints/Constraint", "equals", "(Ljava/lang/Object;)Z"⟩ : MethodName)) hown10 (mvT hZ10 (hw _ (List.mem_of_getElem? (i := 72) rfl))) (mvT hZ10 (hw _ (List.mem_of_getElem? (i := 73) rfl))) (notFace_of_selects (args := #[]) (mvT hZ10 (hw _ (List.mem_of_getElem? (i := 75) rfl)))) (mvT hZ10 (hw _ (List.mem_of_getElem? (i := 75) rfl))) (mvT hZ10 (hw _ (List.mem_of_getElem? (i := 74) rfl))) (by decide) (backOf (W := 0) (rmEq l Z a0 hw [] b7 b9 x1 x2 R1 R2 x3 x4 (own_cs p1) (own_cs sQ) (own_cs p3) (own_cs oQ) zc T10.heap n0 Z10 f10_1 O2 P5 GE10 f10_7 f10_8 f10_9 GS10 GR10 GO10 f10_2 f10_3 f10_4 f10_5 (own_oks _) (own_oks _) (own_oks _) (own_oks _)) hZ10 (hw _ (List.mem_of_getElem? (i := 76) rfl)) (hw _ (List.mem_of_getElem? (i := 48) rfl)) (by decide) (by decide)) q11a q11c (g := (mkF m 167 #[.val (.int p1), .val (.int p2), .val (.int p3), .val (.int p4), .val (.int p5), .val (.int p6), .val (.int sQ), .val (.int oQ), .val (.int r1), .val (.int r2), .val (.ref x1), .val (.ref x2), .val (.ref x3), .val (.ref x4), .val (.ref R1), .val (.ref R2), .val (.ref b7), .val (.ref b9), .val (.int je), .val .null, .val (.ref x1)] [(.ref b9), (.ref b7)])) rfl (by rw [hml]; rfl) (Steps.refl _) (argsL := [(.ref b9)]) (rest := []) (lenOf pd_4 rfl) rfl (by show 2 * 0 + _ ≤ _; exact Nat.le_of_eq rfl) (hb hby at_167) (fun _ _ => ⟨rfl, eJ154, (by first | decide | exact Nat.le_of_ble_eq_true rfl), (by first | decide | exact Nat.le_of_ble_eq_true rfl)⟩)
    dsimp only [Pt.U, Pt.locs, Pt.cells, Pt.slots] at X11 l11 y11 z11 st11 hQ11
    obtain ⟨rfl, N11, e11⟩ := hQ11
    have X11 := own_sn X11 (k' := 38) (n' := 246) y11 z11
    have NF11 := own_fr l11 NJ154 N11
    refine own_go (fun _ k => st11.trans k) ?_
    show own_Gl p.tables e below F (T11.setTop (mkF m 170 #[.val (.int p1), .val (.int p2), .val (.int p3), .val (.int p4), .val (.int p5), .val (.int p6), .val (.int sQ), .val (.int oQ), .val (.int r1), .val (.int r2), .val (.ref x1), .val (.ref x2), .val (.ref x3), .val (.ref x4), .val (.ref R1), .val (.ref R2), .val (.ref b7), .val (.ref b9), .val (.int je), .val .null, .val (.ref x1)] [(.int (own_e (own_cs p1) (own_cs sQ) R1 R2 (own_cs p3) (own_cs oQ)))]))
    refine own_go (fun _ k => XS.iload X11.here hx rfl (hb hby at_170) rfl k) ?_
    show own_Gl p.tables e below F (T11.setTop (mkF m 172 #[.val (.int p1), .val (.int p2), .val (.int p3), .val (.int p4), .val (.int p5), .val (.int p6), .val (.int sQ), .val (.int oQ), .val (.int r1), .val (.int r2), .val (.ref x1), .val (.ref x2), .val (.ref x3), .val (.ref x4), .val (.ref R1), .val (.ref R2), .val (.ref b7), .val (.ref b9), .val (.int je), .val .null, .val (.ref x1)] [(.int je), (.int (own_e (own_cs p1) (own_cs sQ) R1 R2 (own_cs p3) (own_cs oQ)))]))
    refine own_go (fun _ k => XS.icmpNo X11.here hx rfl (hb hby at_172) rfl (XT.ii_ne_f hj.symm) k) ?_
    show own_Gl p.tables e below F (T11.setTop (mkF m 175 #[.val (.int p1), .val (.int p2), .val (.int p3), .val (.int p4), .val (.int p5), .val (.int p6), .val (.int sQ), .val (.int oQ), .val (.int r1), .val (.int r2), .val (.ref x1), .val (.ref x2), .val (.ref x3), .val (.ref x4), .val (.ref R1), .val (.ref R2), .val (.ref b7), .val (.ref b9), .val (.int je), .val .null, .val (.ref x1)] []))
    refine own_go (fun _ k => XS.aload X11.here hx rfl (hb hby at_175) rfl rfl k) ?_
    show own_Gl p.tables e below F (T11.setTop (mkF m 177 #[.val (.int p1), .val (.int p2), .val (.int p3), .val (.int p4), .val (.int p5), .val (.int p6), .val (.int sQ), .val (.int oQ), .val (.int r1), .val (.int r2), .val (.ref x1), .val (.ref x2), .val (.ref x3), .val (.ref x4), .val (.ref R1), .val (.ref R2), .val (.ref b7), .val (.ref b9), .val (.int je), .val .null, .val (.ref x1)] [(.ref b9)]))
    refine own_go (fun _ k => XS.aload X11.here hx rfl (hb hby at_177) rfl rfl k) ?_
    show own_Gl p.tables e below F (T11.setTop (mkF m 179 #[.val (.int p1), .val (.int p2), .val (.int p3), .val (.int p4), .val (.int p5), .val (.int p6), .val (.int sQ), .val (.int oQ), .val (.int r1), .val (.int r2), .val (.ref x1), .val (.ref x2), .val (.ref x3), .val (.ref x4), .val (.ref R1), .val (.ref R2), .val (.ref b7), .val (.ref b9), .val (.int je), .val .null, .val (.ref x1)] [(.ref b7), (.ref b9)]))
    obtain ⟨cq12, kq12, q12a, q12b, q12c⟩ := isOf hZ10 e11 GE10
    obtain ⟨_, _, ⟨T12, L12, k12, n12⟩, -, X12, ⟨Lc12, hQ12, l12, y12, z12⟩, st12⟩ := X11.virtualBack hx (y := (⟨"com/example/cores_from_twigs/coresfromtwigs/constraints/Constraint", "equals", "(Ljava/lang/Object;)Z"⟩ : MethodName)) (z := (⟨"com/example/cores_from_twigs/coresfromtwigs/constraints/Constraint", "equals", "(Ljava/lang/Object;)Z"⟩ : MethodName)) hown10 (mvT hZ10 (hw _ (List.mem_of_getElem? (i := 72) rfl))) (mvT hZ10 (hw _ (List.mem_of_getElem? (i := 73) rfl))) (notFace_of_selects (args := #[]) (mvT hZ10 (hw _ (List.mem_of_getElem? (i := 75) rfl)))) (mvT hZ10 (hw _ (List.mem_of_getElem? (i := 75) rfl))) (mvT hZ10 (hw _ (List.mem_of_getElem? (i := 74) rfl))) (by decide) (backOf (W := 0) (rmEq l Z a0 hw [] b9 b7 x2 x1 R2 R1 x4 x3 (own_cs sQ) (own_cs p1) (own_cs oQ) (own_cs p3) zc T10.heap n0 Z10 f10_1 O2 P5 f10_6 GS10 GR10 GO10 f10_7 f10_8 f10_9 f10_3 f10_2 f10_5 f10_4 (own_oks _) (own_oks _) (own_oks _) (own_oks _)) hZ10 (hw _ (List.mem_of_getElem? (i := 76) rfl)) (hw _ (List.mem_of_getElem? (i := 48) rfl)) (by decide) (by decide)) q12a q12c (g := (mkF m 179 #[.val (.int p1), .val (.int p2), .val (.int p3), .val (.int p4), .val (.int p5), .val (.int p6), .val (.int sQ), .val (.int oQ), .val (.int r1), .val (.int r2), .val (.ref x1), .val (.ref x2), .val (.ref x3), .val (.ref x4), .val (.ref R1), .val (.ref R2), .val (.ref b7), .val (.ref b9), .val (.int je), .val .null, .val (.ref x1)] [(.ref b7), (.ref b9)])) rfl (by rw [hml]; rfl) (Steps.refl _) (argsL := [(.ref b7)]) (rest := []) (lenOf pd_4 rfl) rfl (by show 2 * 0 + _ ≤ _; exact Nat.le_of_eq rfl) (hb hby at_179) (fun _ _ => ⟨rfl, e11, (by first | decide | exact Nat.le_of_ble_eq_true rfl), (by first | decide | exact Nat.le_of_ble_eq_true rfl)⟩)
    dsimp only [Pt.U, Pt.locs, Pt.cells, Pt.slots] at X12 l12 y12 z12 st12 hQ12
    obtain ⟨rfl, N12, e12⟩ := hQ12
    have X12 := own_sn X12 (k' := 38) (n' := 246) y12 z12
    have NF12 := own_fr l12 NF11 N12
    refine own_go (fun _ k => st12.trans k) ?_
    show own_Gl p.tables e below F (T12.setTop (mkF m 182 #[.val (.int p1), .val (.int p2), .val (.int p3), .val (.int p4), .val (.int p5), .val (.int p6), .val (.int sQ), .val (.int oQ), .val (.int r1), .val (.int r2), .val (.ref x1), .val (.ref x2), .val (.ref x3), .val (.ref x4), .val (.ref R1), .val (.ref R2), .val (.ref b7), .val (.ref b9), .val (.int je), .val .null, .val (.ref x1)] [(.int (own_e (own_cs sQ) (own_cs p1) R2 R1 (own_cs oQ) (own_cs p3)))]))
    refine own_go (fun _ k => XS.iload X12.here hx rfl (hb hby at_182) rfl k) ?_
    show own_Gl p.tables e below F (T12.setTop (mkF m 184 #[.val (.int p1), .val (.int p2), .val (.int p3), .val (.int p4), .val (.int p5), .val (.int p6), .val (.int sQ), .val (.int oQ), .val (.int r1), .val (.int r2), .val (.ref x1), .val (.ref x2), .val (.ref x3), .val (.ref x4), .val (.ref R1), .val (.ref R2), .val (.ref b7), .val (.ref b9), .val (.int je), .val .null, .val (.ref x1)] [(.int je), (.int (own_e (own_cs sQ) (own_cs p1) R2 R1 (own_cs oQ) (own_cs p3)))]))
    refine own_go (fun _ k => XS.icmpNo X12.here hx rfl (hb hby at_184) rfl (XT.ii_ne_f ((own_e_symm _ _ _ _ _ _).trans hj.symm)) k) ?_
    show own_Gl p.tables e below F (T12.setTop (mkF m 187 #[.val (.int p1), .val (.int p2), .val (.int p3), .val (.int p4), .val (.int p5), .val (.int p6), .val (.int sQ), .val (.int oQ), .val (.int r1), .val (.int r2), .val (.ref x1), .val (.ref x2), .val (.ref x3), .val (.ref x4), .val (.ref R1), .val (.ref R2), .val (.ref b7), .val (.ref b9), .val (.int je), .val .null, .val (.ref x1)] []))
    refine own_go (fun _ k => XS.aload X12.here hx rfl (hb hby at_187) rfl rfl k) ?_
    show own_Gl p.tables e below F (T12.setTop (mkF m 189 #[.val (.int p1), .val (.int p2), .val (.int p3), .val (.int p4), .val (.int p5), .val (.int p6), .val (.int sQ), .val (.int oQ), .val (.int r1), .val (.int r2), .val (.ref x1), .val (.ref x2), .val (.ref x3), .val (.ref x4), .val (.ref R1), .val (.ref R2), .val (.ref b7), .val (.ref b9), .val (.int je), .val .null, .val (.ref x1)] [(.ref b7)]))
    refine own_go (fun _ k => XS.aload X12.here hx rfl (hb hby at_189) rfl rfl k) ?_
    show own_Gl p.tables e below F (T12.setTop (mkF m 191 #[.val (.int p1), .val (.int p2), .val (.int p3), .val (.int p4), .val (.int p5), .val (.int p6), .val (.int sQ), .val (.int oQ), .val (.int r1), .val (.int r2), .val (.ref x1), .val (.ref x2), .val (.ref x3), .val (.ref x4), .val (.ref R1), .val (.ref R2), .val (.ref b7), .val (.ref b9), .val (.int je), .val .null, .val (.ref x1)] [(.ref b7), (.ref b7)]))
    obtain ⟨cq13, kq13, q13a, q13b, q13c⟩ := isOf hZ10 e12 f10_6
    obtain ⟨_, _, ⟨T13, L13, k13, n13⟩, -, X13, ⟨Lc13, hQ13, l13, y13, z13⟩, st13⟩ := X12.virtualBack hx (y := (⟨"com/example/cores_from_twigs/coresfromtwigs/constraints/Constraint", "equals", "(Ljava/lang/Object;)Z"⟩ : MethodName)) (z := (⟨"com/example/cores_from_twigs/coresfromtwigs/constraints/Constraint", "equals", "(Ljava/lang/Object;)Z"⟩ : MethodName)) hown10 (mvT hZ10 (hw _ (List.mem_of_getElem? (i := 72) rfl))) (mvT hZ10 (hw _ (List.mem_of_getElem? (i := 73) rfl))) (notFace_of_selects (args := #[]) (mvT hZ10 (hw _ (List.mem_of_getElem? (i := 75) rfl)))) (mvT hZ10 (hw _ (List.mem_of_getElem? (i := 75) rfl))) (mvT hZ10 (hw _ (List.mem_of_getElem? (i := 74) rfl))) (by decide) (backOf (W := 0) (rmEq l Z a0 hw [] b7 b7 x1 x1 R1 R1 x3 x3 (own_cs p1) (own_cs p1) (own_cs p3) (own_cs p3) zc T10.heap n0 Z10 f10_1 O2 P5 f10_6 f10_7 f10_8 f10_9 f10_7 f10_8 f10_9 f10_2 f10_2 f10_4 f10_4 (own_oks _) (own_oks _) (own_oks _) (own_oks _)) hZ10 (hw _ (List.mem_of_getElem? (i := 76) rfl)) (hw _ (List.mem_of_getElem? (i := 48) rfl)) (by decide) (by decide)) q13a q13c (g := (mkF m 191 #[.val (.int p1), .val (.int p2), .val (.int p3), .val (.int p4), .val (.int p5), .val (.int p6), .val (.int sQ), .val (.int oQ), .val (.int r1), .val (.int r2), .val (.ref x1), .val (.ref x2), .val (.ref x3), .val (.ref x4), .val (.ref R1), .val (.ref R2), .val (.ref b7), .val (.ref b9), .val (.int je), .val .null, .val (.ref x1)] [(.ref b7), (.ref b7)])) rfl (by rw [hml]; rfl) (Steps.refl _) (argsL := [(.ref b7)]) (rest := []) (lenOf pd_4 rfl) rfl (by show 2 * 0 + _ ≤ _; exact Nat.le_of_eq rfl) (hb hby at_191) (fun _ _ => ⟨rfl, e12, (by first | decide | exact Nat.le_of_ble_eq_true rfl), (by first | decide | exact Nat.le_of_ble_eq_true rfl)⟩)
    dsimp only [Pt.U, Pt.locs, Pt.cells, Pt.slots] at X13 l13 y13 z13 st13 hQ13
    obtain ⟨rfl, N13, e13⟩ := hQ13
    have X13 := own_sn X13 (k' := 38) (n' := 246) y13 z13
    have NF13 := own_fr l13 NF12 N13
    refine own_go (fun _ k => st13.trans k) ?_
    show own_Gl p.tables e below F (T13.setTop (mkF m 194 #[.val (.int p1), .val (.int p2), .val (.int p3), .val (.int p4), .val (.int p5), .val (.int p6), .val (.int sQ), .val (.int oQ), .val (.int r1), .val (.int r2), .val (.ref x1), .val (.ref x2), .val (.ref x3), .val (.ref x4), .val (.ref R1), .val (.ref R2), .val (.ref b7), .val (.ref b9), .val (.int je), .val .null, .val (.ref x1)] [(.int (own_e (own_cs p1) (own_cs p1) R1 R1 (own_cs p3) (own_cs p3)))]))
    refine own_go (fun _ k => XS.ifNo X13.here hx rfl (hb hby at_194) rfl (XT.i0_eq_f (by rw [own_e_self]; decide)) k) ?_
    show own_Gl p.tables e below F (T13.setTop (mkF m 197 #[.val (.int p1), .val (.int p2), .val (.int p3), .val (.int p4), .val (.int p5), .val (.int p6), .val (.int sQ), .val (.int oQ), .val (.int r1), .val (.int r2), .val (.ref x1), .val (.ref x2), .val (.ref x3), .val (.ref x4), .val (.ref R1), .val (.ref R2), .val (.ref b7), .val (.ref b9), .val (.int je), .val .null, .val (.ref x1)] []))
    refine own_go (fun _ k => XS.aload X13.here hx rfl (hb hby at_197) rfl rfl k) ?_
    show own_Gl p.tables e below F (T13.setTop (mkF m 199 #[.val (.int p1), .val (.int p2), .val (.int p3), .val (.int p4), .val (.int p5), .val (.int p6), .val (.int sQ), .val (.int oQ), .val (.int r1), .val (.int r2), .val (.ref x1), .val (.ref x2), .val (.ref x3), .val (.ref x4), .val (.ref R1), .val (.ref R2), .val (.ref b7), .val (.ref b9), .val (.int je), .val .null, .val (.ref x1)] [(.ref b7)]))
    refine own_go (fun _ k => XS.aload X13.here hx rfl (hb hby at_199) rfl rfl k) ?_
    show own_Gl p.tables e below F (T13.setTop (mkF m 201 #[.val (.int p1), .val (.int p2), .val (.int p3), .val (.int p4), .val (.int p5), .val (.int p6), .val (.int sQ), .val (.int oQ), .val (.int r1), .val (.int r2), .val (.ref x1), .val (.ref x2), .val (.ref x3), .val (.ref x4), .val (.ref R1), .val (.ref R2), .val (.ref b7), .val (.ref b9), .val (.int je), .val .null, .val (.ref x1)] [.null, (.ref b7)]))
    obtain ⟨cq14, kq14, q14a, q14b, q14c⟩ := isOf hZ10 e13 f10_6
    obtain ⟨_, _, ⟨T14, L14, k14, n14⟩, -, X14, ⟨Lc14, hQ14, l14, y14, z14⟩, st14⟩ := X13.virtualBack hx (y := (⟨"com/example/cores_from_twigs/coresfromtwigs/constraints/Constraint", "equals", "(Ljava/lang/Object;)Z"⟩ : MethodName)) (z := (⟨"com/example/cores_from_twigs/coresfromtwigs/constraints/Constraint", "equals", "(Ljava/lang/Object;)Z"⟩ : MethodName)) hown10 (mvT hZ10 (hw _ (List.mem_of_getElem? (i := 72) rfl))) (mvT hZ10 (hw _ (List.mem_of_getElem? (i := 73) rfl))) (notFace_of_selects (args := #[]) (mvT hZ10 (hw _ (List.mem_of_getElem? (i := 75) rfl)))) (mvT hZ10 (hw _ (List.mem_of_getElem? (i := 75) rfl))) (mvT hZ10 (hw _ (List.mem_of_getElem? (i := 74) rfl))) (by decide) (backOf (W := 0) (rmEn l Z a0 hw [] b7  T10.heap n0 Z10 ) hZ10 (hw _ (List.mem_of_getElem? (i := 76) rfl)) (hw _ (List.mem_of_getElem? (i := 48) rfl)) (by decide) (by decide)) q14a q14c (g := (mkF m 201 #[.val (.int p1), .val (.int p2), .val (.int p3), .val (.int p4), .val (.int p5), .val (.int p6), .val (.int sQ), .val (.int oQ), .val (.int r1), .val (.int r2), .val (.ref x1), .val (.ref x2), .val (.ref x3), .val (.ref x4), .val (.ref R1), .val (.ref R2), .val (.ref b7), .val (.ref b9), .val (.int je), .val .null, .val (.ref x1)] [.null, (.ref b7)])) rfl (by rw [hml]; rfl) (Steps.refl _) (argsL := [.null]) (rest := []) (lenOf pd_4 rfl) rfl (by show 2 * 0 + _ ≤ _; exact Nat.le_of_eq rfl) (hb hby at_201) (fun _ _ => ⟨rfl, e13, (by first | decide | exact Nat.le_of_ble_eq_true rfl), (by first | decide | exact Nat.le_of_ble_eq_true rfl)⟩)
    dsimp only [Pt.U, Pt.locs, Pt.cells, Pt.slots] at X14 l14 y14 z14 st14 hQ14
    obtain ⟨rfl, N14, e14⟩ := hQ14
    have X14 := own_sn X14 (k' := 38) (n' := 246) y14 z14
    have NF14 := own_fr l14 NF13 N14
    refine own_go (fun _ k => st14.trans k) ?_
    show own_Gl p.tables e below F (T14.setTop (mkF m 204 #[.val (.int p1), .val (.int p2), .val (.int p3), .val (.int p4), .val (.int p5), .val (.int p6), .val (.int sQ), .val (.int oQ), .val (.int r1), .val (.int r2), .val (.ref x1), .val (.ref x2), .val (.ref x3), .val (.ref x4), .val (.ref R1), .val (.ref R2), .val (.ref b7), .val (.ref b9), .val (.int je), .val .null, .val (.ref x1)] [(.int (0 : Int32))]))
    refine own_go (fun _ k => XS.ifNo X14.here hx rfl (hb hby at_204) rfl (XT.i0_ne_f rfl) k) ?_
    show own_Gl p.tables e below F (T14.setTop (mkF m 207 #[.val (.int p1), .val (.int p2), .val (.int p3), .val (.int p4), .val (.int p5), .val (.int p6), .val (.int sQ), .val (.int oQ), .val (.int r1), .val (.int r2), .val (.ref x1), .val (.ref x2), .val (.ref x3), .val (.ref x4), .val (.ref R1), .val (.ref R2), .val (.ref b7), .val (.ref b9), .val (.int je), .val .null, .val (.ref x1)] []))
    refine own_go (fun _ k => XS.aload X14.here hx rfl (hb hby at_207) rfl rfl k) ?_
    show own_Gl p.tables e below F (T14.setTop (mkF m 209 #[.val (.int p1), .val (.int p2), .val (.int p3), .val (.int p4), .val (.int p5), .val (.int p6), .val (.int sQ), .val (.int oQ), .val (.int r1), .val (.int r2), .val (.ref x1), .val (.ref x2), .val (.ref x3), .val (.ref x4), .val (.ref R1), .val (.ref R2), .val (.ref b7), .val (.ref b9), .val (.int je), .val .null, .val (.ref x1)] [(.ref b7)]))
    refine own_go (fun _ k => XS.aload X14.here hx rfl (hb hby at_209) rfl rfl k) ?_
    show own_Gl p.tables e below F (T14.setTop (mkF m 211 #[.val (.int p1), .val (.int p2), .val (.int p3), .val (.int p4), .val (.int p5), .val (.int p6), .val (.int sQ), .val (.int oQ), .val (.int r1), .val (.int r2), .val (.ref x1), .val (.ref x2), .val (.ref x3), .val (.ref x4), .val (.ref R1), .val (.ref R2), .val (.ref b7), .val (.ref b9), .val (.int je), .val .null, .val (.ref x1)] [(.ref x1), (.ref b7)]))
    obtain ⟨cq15, kq15, q15a, q15b, q15c⟩ := isOf hZ10 e14 f10_6
    obtain ⟨_, _, ⟨T15, L15, k15, n15⟩, -, X15, ⟨Lc15, hQ15, l15, y15, z15⟩, st15⟩ := X14.virtualBack hx (y := (⟨"com/example/cores_from_twigs/coresfromtwigs/constraints/Constraint", "equals", "(Ljava/lang/Object;)Z"⟩ : MethodName)) (z := (⟨"com/example/cores_from_twigs/coresfromtwigs/constraints/Constraint", "equals", "(Ljava/lang/Object;)Z"⟩ : MethodName)) hown10 (mvT hZ10 (hw _ (List.mem_of_getElem? (i := 72) rfl))) (mvT hZ10 (hw _ (List.mem_of_getElem? (i := 73) rfl))) (notFace_of_selects (args := #[]) (mvT hZ10 (hw _ (List.mem_of_getElem? (i := 75) rfl)))) (mvT hZ10 (hw _ (List.mem_of_getElem? (i := 75) rfl))) (mvT hZ10 (hw _ (List.mem_of_getElem? (i := 74) rfl))) (by decide) (backOf (W := 0) (rmEs l Z a0 hw [] b7 x1  T10.heap n0 Z10 f10_2.1) hZ10 (hw _ (List.mem_of_getElem? (i := 76) rfl)) (hw _ (List.mem_of_getElem? (i := 48) rfl)) (by decide) (by decide)) q15a q15c (g := (mkF m 211 #[.val (.int p1), .val (.int p2), .val (.int p3), .val (.int p4), .val (.int p5), .val (.int p6), .val (.int sQ), .val (.int oQ), .val (.int r1), .val (.int r2), .val (.ref x1), .val (.ref x2), .val (.ref x3), .val (.ref x4), .val (.ref R1), .val (.ref R2), .val (.ref b7), .val (.ref b9), .val (.int je), .val .null, .val (.ref x1)] [(.ref x1), (.ref b7)])) rfl (by rw [hml]; rfl) (Steps.refl _) (argsL := [(.ref x1)]) (rest := []) (lenOf pd_4 rfl) rfl (by show 2 * 0 + _ ≤ _; exact Nat.le_of_eq rfl) (hb hby at_211) (fun _ _ => ⟨rfl, e14, (by first | decide | exact Nat.le_of_ble_eq_true rfl), (by first | decide | exact Nat.le_of_ble_eq_true rfl)⟩)
    dsimp only [Pt.U, Pt.locs, Pt.cells, Pt.slots] at X15 l15 y15 z15 st15 hQ15
    obtain ⟨rfl, N15, e15⟩ := hQ15
    have X15 := own_sn X15 (k' := 38) (n' := 246) y15 z15
    have NF15 := own_fr l15 NF14 N15
    refine own_go (fun _ k => st15.trans k) ?_
    show own_Gl p.tables e below F (T15.setTop (mkF m 214 #[.val (.int p1), .val (.int p2), .val (.int p3), .val (.int p4), .val (.int p5), .val (.int p6), .val (.int sQ), .val (.int oQ), .val (.int r1), .val (.int r2), .val (.ref x1), .val (.ref x2), .val (.ref x3), .val (.ref x4), .val (.ref R1), .val (.ref R2), .val (.ref b7), .val (.ref b9), .val (.int je), .val .null, .val (.ref x1)] [(.int (0 : Int32))]))
    refine own_go (fun _ k => XS.ifNo X15.here hx rfl (hb hby at_214) rfl (XT.i0_ne_f rfl) k) ?_
    show own_Gl p.tables e below F (T15.setTop (mkF m 217 #[.val (.int p1), .val (.int p2), .val (.int p3), .val (.int p4), .val (.int p5), .val (.int p6), .val (.int sQ), .val (.int oQ), .val (.int r1), .val (.int r2), .val (.ref x1), .val (.ref x2), .val (.ref x3), .val (.ref x4), .val (.ref R1), .val (.ref R2), .val (.ref b7), .val (.ref b9), .val (.int je), .val .null, .val (.ref x1)] []))
    refine own_go (fun _ k => XS.iconst X15.here hx rfl (hb hby at_217) k) ?_
    show own_Gl p.tables e below F (T15.setTop (mkF m 218 #[.val (.int p1), .val (.int p2), .val (.int p3), .val (.int p4), .val (.int p5), .val (.int p6), .val (.int sQ), .val (.int oQ), .val (.int r1), .val (.int r2), .val (.ref x1), .val (.ref x2), .val (.ref x3), .val (.ref x4), .val (.ref R1), .val (.ref R2), .val (.ref b7), .val (.ref b9), .val (.int je), .val .null, .val (.ref x1)] [(.int (1 : Int32))]))
    refine own_go (fun _ k => XS.goto X15.here hx rfl (pc0 := 218) (pc' := 222) rfl (hb hby at_218) (by decide) (by decide) k) ?_
    show own_Gl p.tables e below F (T15.setTop (mkF m 222 #[.val (.int p1), .val (.int p2), .val (.int p3), .val (.int p4), .val (.int p5), .val (.int p6), .val (.int sQ), .val (.int oQ), .val (.int r1), .val (.int r2), .val (.ref x1), .val (.ref x2), .val (.ref x3), .val (.ref x4), .val (.ref R1), .val (.ref R2), .val (.ref b7), .val (.ref b9), .val (.int je), .val .null, .val (.ref x1)] [(.int (1 : Int32))]))
    obtain ⟨fs, hr, hrun, hended, hRW⟩ := Jvm.Stand.leaveW X15 hS10 (by rw [e15]; exact hk10) (v := some (.int (1 : Int32))) (fun h => by rw [Bd.returns] at h; cases h)
    have CE : CHr Z own_EL s.vm s.heap T15.vm T15.heap := by rw [hh, e15]; exact CR10.trans (CHv.at X15 hZ10 hEL CR10.1)
    subst hF
    refine own_fin ?_ ⟨hrun, hended, _, _, rfl, ?_, CE, hRW.1, hRW.2.1, hRW.2.2.1, hRW.2.2.2.mono (by first | decide | exact Nat.le_of_ble_eq_true rfl) (by first | decide | exact Nat.le_of_ble_eq_true rfl)⟩
    · exact own_retN X15 hx (t := .boolean) Bd.returns (by simp) rfl (hb hby at_222) hr
    · show Q_rm0 Z _ _ _ _ _ _ _ _ _ _ _ h0 n0 _ T15.heap _
      rw [e15]
      exact ⟨rfl, NF15⟩
  show own_Gl p.tables e below F (T10.setTop (mkF m 127 #[.val (.int p1), .val (.int p2), .val (.int p3), .val (.int p4), .val (.int p5), .val (.int p6), .val (.int sQ), .val (.int oQ), .val (.int r1), .val (.int r2), .val (.ref x1), .val (.ref x2), .val (.ref x3), .val (.ref x4), .val (.ref R1), .val (.ref R2), .val (.ref b7), .val (.ref b9), .unset, .unset, .unset] [(.int sQ), (.int p1)]))
  obtain ⟨_, _, ⟨T16, L16, k16, n16⟩, -, X16, ⟨Lc16, hQ16, l16, y16, z16⟩, st16⟩ := Jvm.LawKit.callS XR10 hx (y := (⟨"com/example/cores_from_twigs/coresfromtwigs/constraints/ConstraintEqualsPinLaw", "same", "(II)Z"⟩ : MethodName)) hown10 (mvT hZ10 (hw _ (List.mem_of_getElem? (i := 69) rfl))) (mvT hZ10 (hw _ (List.mem_of_getElem? (i := 70) rfl))) (mvT hZ10 (hw _ (List.mem_of_getElem? (i := 2) rfl))) (mvT hZ10 (hw _ (List.mem_of_getElem? (i := 71) rfl))) (by decide) (backOf (W := 0) (rm12 l Z a0 hw [] p1 sQ  T10.heap n0 Z10 ) hZ10 (hw _ (List.mem_of_getElem? (i := 71) rfl)) (hw _ (List.mem_of_getElem? (i := 2) rfl)) (by decide) (by decide)) (g := (mkF m 127 #[.val (.int p1), .val (.int p2), .val (.int p3), .val (.int p4), .val (.int p5), .val (.int p6), .val (.int sQ), .val (.int oQ), .val (.int r1), .val (.int r2), .val (.ref x1), .val (.ref x2), .val (.ref x3), .val (.ref x4), .val (.ref R1), .val (.ref R2), .val (.ref b7), .val (.ref b9), .unset, .unset, .unset] [(.int sQ), (.int p1)])) rfl (by rw [hml]; rfl) (argsL := [(.int p1), (.int sQ)]) (rest := []) (lenOf pd_8 rfl) rfl (by show 2 * 0 + _ ≤ _; exact Nat.le_of_eq rfl) (hb hby at_127) (fun _ _ => ⟨rfl, rfl, (by first | decide | exact Nat.le_of_ble_eq_true rfl), (by first | decide | exact Nat.le_of_ble_eq_true rfl)⟩)
  dsimp only [Pt.U, Pt.locs, Pt.cells, Pt.slots] at X16 l16 y16 z16 st16 hQ16
  obtain ⟨rfl, N16, e16⟩ := hQ16
  have X16 := own_sn X16 (k' := 38) (n' := 246) y16 z16
  have NF16 := own_fr l16 NF10 N16
  refine own_go st16 ?_
  show own_Gl p.tables e below F (T16.setTop (mkF m 130 #[.val (.int p1), .val (.int p2), .val (.int p3), .val (.int p4), .val (.int p5), .val (.int p6), .val (.int sQ), .val (.int oQ), .val (.int r1), .val (.int r2), .val (.ref x1), .val (.ref x2), .val (.ref x3), .val (.ref x4), .val (.ref R1), .val (.ref R2), .val (.ref b7), .val (.ref b9), .unset, .unset, .unset] [(.int (own_same p1 sQ))]))
  by_cases h1 : own_cs p1 = own_cs sQ
  · refine own_go (fun _ k => XS.ifNo X16.here hx rfl (hb hby at_130) rfl (XT.i0_eq_f (by rw [own_same, if_pos h1]; decide)) k) ?_
    show own_Gl p.tables e below F (T16.setTop (mkF m 133 #[.val (.int p1), .val (.int p2), .val (.int p3), .val (.int p4), .val (.int p5), .val (.int p6), .val (.int sQ), .val (.int oQ), .val (.int r1), .val (.int r2), .val (.ref x1), .val (.ref x2), .val (.ref x3), .val (.ref x4), .val (.ref R1), .val (.ref R2), .val (.ref b7), .val (.ref b9), .unset, .unset, .unset] []))
    refine own_go (fun _ k => XS.iload X16.here hx rfl (hb hby at_133) rfl k) ?_
    show own_Gl p.tables e below F (T16.setTop (mkF m 135 #[.val (.int p1), .val (.int p2), .val (.int p3), .val (.int p4), .val (.int p5), .val (.int p6), .val (.int sQ), .val (.int oQ), .val (.int r1), .val (.int r2), .val (.ref x1), .val (.ref x2), .val (.ref x3), .val (.ref x4), .val (.ref R1), .val (.ref R2), .val (.ref b7), .val (.ref b9), .unset, .unset, .unset] [(.int r1)]))
    refine own_go (fun _ k => XS.iload X16.here hx rfl (hb hby at_135) rfl k) ?_
    show own_Gl p.tables e below F (T16.setTop (mkF m 137 #[.val (.int p1), .val (.int p2), .val (.int p3), .val (.int p4), .val (.int p5), .val (.int p6), .val (.int sQ), .val (.int oQ), .val (.int r1), .val (.int r2), .val (.ref x1), .val (.ref x2), .val (.ref x3), .val (.ref x4), .val (.ref R1), .val (.ref R2), .val (.ref b7), .val (.ref b9), .unset, .unset, .unset] [(.int r2), (.int r1)]))
    by_cases h2 : r1 = r2
    · refine own_go (fun _ k => XS.icmpNo X16.here hx rfl (hb hby at_137) rfl (XT.ii_ne_f h2) k) ?_
      show own_Gl p.tables e below F (T16.setTop (mkF m 140 #[.val (.int p1), .val (.int p2), .val (.int p3), .val (.int p4), .val (.int p5), .val (.int p6), .val (.int sQ), .val (.int oQ), .val (.int r1), .val (.int r2), .val (.ref x1), .val (.ref x2), .val (.ref x3), .val (.ref x4), .val (.ref R1), .val (.ref R2), .val (.ref b7), .val (.ref b9), .unset, .unset, .unset] []))
      refine own_go (fun _ k => XS.iloadN X16.here hx rfl (hb hby at_140) rfl k) ?_
      show own_Gl p.tables e below F (T16.setTop (mkF m 141 #[.val (.int p1), .val (.int p2), .val (.int p3), .val (.int p4), .val (.int p5), .val (.int p6), .val (.int sQ), .val (.int oQ), .val (.int r1), .val (.int r2), .val (.ref x1), .val (.ref x2), .val (.ref x3), .val (.ref x4), .val (.ref R1), .val (.ref R2), .val (.ref b7), .val (.ref b9), .unset, .unset, .unset] [(.int p3)]))
      refine own_go (fun _ k => XS.iload X16.here hx rfl (hb hby at_141) rfl k) ?_
      show own_Gl p.tables e below F (T16.setTop (mkF m 143 #[.val (.int p1), .val (.int p2), .val (.int p3), .val (.int p4), .val (.int p5), .val (.int p6), .val (.int sQ), .val (.int oQ), .val (.int r1), .val (.int r2), .val (.ref x1), .val (.ref x2), .val (.ref x3), .val (.ref x4), .val (.ref R1), .val (.ref R2), .val (.ref b7), .val (.ref b9), .unset, .unset, .unset] [(.int oQ), (.int p3)]))
      obtain ⟨_, _, ⟨T17, L17, k17, n17⟩, -, X17, ⟨Lc17, hQ17, l17, y17, z17⟩, st17⟩ := Jvm.LawKit.callS X16 hx (y := (⟨"com/example/cores_from_twigs/coresfromtwigs/constraints/ConstraintEqualsPinLaw", "same", "(II)Z"⟩ : MethodName)) hown10 (mvT hZ10 (hw _ (List.mem_of_getElem? (i := 69) rfl))) (mvT hZ10 (hw _ (List.mem_of_getElem? (i := 70) rfl))) (mvT hZ10 (hw _ (List.mem_of_getElem? (i := 2) rfl))) (mvT hZ10 (hw _ (List.mem_of_getElem? (i := 71) rfl))) (by decide) (backOf (W := 0) (rm12 l Z a0 hw [] p3 oQ  T10.heap n0 Z10 ) hZ10 (hw _ (List.mem_of_getElem? (i := 71) rfl)) (hw _ (List.mem_of_getElem? (i := 2) rfl)) (by decide) (by decide)) (g := (mkF m 143 #[.val (.int p1), .val (.int p2), .val (.int p3), .val (.int p4), .val (.int p5), .val (.int p6), .val (.int sQ), .val (.int oQ), .val (.int r1), .val (.int r2), .val (.ref x1), .val (.ref x2), .val (.ref x3), .val (.ref x4), .val (.ref R1), .val (.ref R2), .val (.ref b7), .val (.ref b9), .unset, .unset, .unset] [(.int oQ), (.int p3)])) rfl (by rw [hml]; rfl) (argsL := [(.int p3), (.int oQ)]) (rest := []) (lenOf pd_8 rfl) rfl (by show 2 * 0 + _ ≤ _; exact Nat.le_of_eq rfl) (hb hby at_143) (fun _ _ => ⟨rfl, e16, (by first | decide | exact Nat.le_of_ble_eq_true rfl), (by first | decide | exact Nat.le_of_ble_eq_true rfl)⟩)
      dsimp only [Pt.U, Pt.locs, Pt.cells, Pt.slots] at X17 l17 y17 z17 st17 hQ17
      obtain ⟨rfl, N17, e17⟩ := hQ17
      have X17 := own_sn X17 (k' := 38) (n' := 246) y17 z17
      have NF17 := own_fr l17 NF16 N17
      refine own_go st17 ?_
      show own_Gl p.tables e below F (T17.setTop (mkF m 146 #[.val (.int p1), .val (.int p2), .val (.int p3), .val (.int p4), .val (.int p5), .val (.int p6), .val (.int sQ), .val (.int oQ), .val (.int r1), .val (.int r2), .val (.ref x1), .val (.ref x2), .val (.ref x3), .val (.ref x4), .val (.ref R1), .val (.ref R2), .val (.ref b7), .val (.ref b9), .unset, .unset, .unset] [(.int (own_same p3 oQ))]))
      by_cases h3 : own_cs p3 = own_cs oQ
      · refine own_go (fun _ k => XS.ifNo X17.here hx rfl (hb hby at_146) rfl (XT.i0_eq_f (by rw [own_same, if_pos h3]; decide)) k) ?_
        show own_Gl p.tables e below F (T17.setTop (mkF m 149 #[.val (.int p1), .val (.int p2), .val (.int p3), .val (.int p4), .val (.int p5), .val (.int p6), .val (.int sQ), .val (.int oQ), .val (.int r1), .val (.int r2), .val (.ref x1), .val (.ref x2), .val (.ref x3), .val (.ref x4), .val (.ref R1), .val (.ref R2), .val (.ref b7), .val (.ref b9), .unset, .unset, .unset] []))
        refine own_go (fun _ k => XS.iconst X17.here hx rfl (hb hby at_149) k) ?_
        show own_Gl p.tables e below F (T17.setTop (mkF m 150 #[.val (.int p1), .val (.int p2), .val (.int p3), .val (.int p4), .val (.int p5), .val (.int p6), .val (.int sQ), .val (.int oQ), .val (.int r1), .val (.int r2), .val (.ref x1), .val (.ref x2), .val (.ref x3), .val (.ref x4), .val (.ref R1), .val (.ref R2), .val (.ref b7), .val (.ref b9), .unset, .unset, .unset] [(.int (1 : Int32))]))
        refine own_go (fun _ k => XS.goto X17.here hx rfl (pc0 := 150) (pc' := 154) rfl (hb hby at_150) (by decide) (by decide) k) ?_
        show own_Gl p.tables e below F (T17.setTop (mkF m 154 #[.val (.int p1), .val (.int p2), .val (.int p3), .val (.int p4), .val (.int p5), .val (.int p6), .val (.int sQ), .val (.int oQ), .val (.int r1), .val (.int r2), .val (.ref x1), .val (.ref x2), .val (.ref x3), .val (.ref x4), .val (.ref R1), .val (.ref R2), .val (.ref b7), .val (.ref b9), .unset, .unset, .unset] [(.int (1 : Int32))]))
        exact J154 _ _ X17 e17 NF17 _ (by rw [own_e, if_pos h1, if_pos (hRI.mpr h2), if_pos h3])
      · refine own_go (fun _ k => XS.ifYes X17.here hx rfl (pc0 := 146) (pc' := 153) rfl (hb hby at_146) rfl (XT.i0_eq_t (by rw [own_same, if_neg h3])) (by decide) (by decide) k) ?_
        show own_Gl p.tables e below F (T17.setTop (mkF m 153 #[.val (.int p1), .val (.int p2), .val (.int p3), .val (.int p4), .val (.int p5), .val (.int p6), .val (.int sQ), .val (.int oQ), .val (.int r1), .val (.int r2), .val (.ref x1), .val (.ref x2), .val (.ref x3), .val (.ref x4), .val (.ref R1), .val (.ref R2), .val (.ref b7), .val (.ref b9), .unset, .unset, .unset] []))
        refine own_go (fun _ k => XS.iconst X17.here hx rfl (hb hby at_153) k) ?_
        show own_Gl p.tables e below F (T17.setTop (mkF m 154 #[.val (.int p1), .val (.int p2), .val (.int p3), .val (.int p4), .val (.int p5), .val (.int p6), .val (.int sQ), .val (.int oQ), .val (.int r1), .val (.int r2), .val (.ref x1), .val (.ref x2), .val (.ref x3), .val (.ref x4), .val (.ref R1), .val (.ref R2), .val (.ref b7), .val (.ref b9), .unset, .unset, .unset] [(.int (0 : Int32))]))
        exact J154 _ _ X17 e17 NF17 _ (by rw [own_e, if_pos h1, if_pos (hRI.mpr h2), if_neg h3])
    · refine own_go (fun _ k => XS.icmpYes X16.here hx rfl (pc0 := 137) (pc' := 153) rfl (hb hby at_137) rfl (XT.ii_ne_t h2) (by decide) (by decide) k) ?_
      show own_Gl p.tables e below F (T16.setTop (mkF m 153 #[.val (.int p1), .val (.int p2), .val (.int p3), .val (.int p4), .val (.int p5), .val (.int p6), .val (.int sQ), .val (.int oQ), .val (.int r1), .val (.int r2), .val (.ref x1), .val (.ref x2), .val (.ref x3), .val (.ref x4), .val (.ref R1), .val (.ref R2), .val (.ref b7), .val (.ref b9), .unset, .unset, .unset] []))
      refine own_go (fun _ k => XS.iconst X16.here hx rfl (hb hby at_153) k) ?_
      show own_Gl p.tables e below F (T16.setTop (mkF m 154 #[.val (.int p1), .val (.int p2), .val (.int p3), .val (.int p4), .val (.int p5), .val (.int p6), .val (.int sQ), .val (.int oQ), .val (.int r1), .val (.int r2), .val (.ref x1), .val (.ref x2), .val (.ref x3), .val (.ref x4), .val (.ref R1), .val (.ref R2), .val (.ref b7), .val (.ref b9), .unset, .unset, .unset] [(.int (0 : Int32))]))
      exact J154 _ _ X16 e16 NF16 _ (by rw [own_e, if_pos h1, if_neg (fun q => h2 (hRI.mp q))])
  · refine own_go (fun _ k => XS.ifYes X16.here hx rfl (pc0 := 130) (pc' := 153) rfl (hb hby at_130) rfl (XT.i0_eq_t (by rw [own_same, if_neg h1])) (by decide) (by decide) k) ?_
    show own_Gl p.tables e below F (T16.setTop (mkF m 153 #[.val (.int p1), .val (.int p2), .val (.int p3), .val (.int p4), .val (.int p5), .val (.int p6), .val (.int sQ), .val (.int oQ), .val (.int r1), .val (.int r2), .val (.ref x1), .val (.ref x2), .val (.ref x3), .val (.ref x4), .val (.ref R1), .val (.ref R2), .val (.ref b7), .val (.ref b9), .unset, .unset, .unset] []))
    refine own_go (fun _ k => XS.iconst X16.here hx rfl (hb hby at_153) k) ?_
    show own_Gl p.tables e below F (T16.setTop (mkF m 154 #[.val (.int p1), .val (.int p2), .val (.int p3), .val (.int p4), .val (.int p5), .val (.int p6), .val (.int sQ), .val (.int oQ), .val (.int r1), .val (.int r2), .val (.ref x1), .val (.ref x2), .val (.ref x3), .val (.ref x4), .val (.ref R1), .val (.ref R2), .val (.ref b7), .val (.ref b9), .unset, .unset, .unset] [(.int (0 : Int32))]))
    exact J154 _ _ X16 e16 NF16 _ (by rw [own_e, if_neg h1])
theorem own_args {args : Array Value} (hs : args.size = 6) : ∃ w0 w1 w2 w3 w4 w5 : Value, args = #[w0, w1, w2, w3, w4, w5] := by
  obtain ⟨L⟩ := args
  match L, hs with
  | [w0, w1, w2, w3, w4, w5], _ => exact ⟨w0, w1, w2, w3, w4, w5, rfl⟩
set_option maxRecDepth 65536 in
set_option maxHeartbeats 40000000 in
theorem comes_1 {Post : Tables → Env → Array Value → State → Outcome → State → Prop} (hpost : ∀ tb e args s v u, (limb_1_1.after args s (.returned v) u = true ∧ limb_1_2.after args s (.returned v) u = true ∧ True) → ReturnedEndW s (.returned v) u (Jvm.fieldLocs frame_1_writes args s ++ Jvm.arrayLocs frame_1_arrays args s ++ Jvm.staticLocs frame_1_statics s) 48 4288 → Post tb e args s (.returned v) u) :
    ArmFor flags0 classFile x code maxLocals ret World_1 tables_1 room_1 Calls_1 rest_1 Pre_1 Post := by
  intro l hfl _ _ p e ha hc hk s m args below hf hA hF happ hP
  obtain ⟨hcalls, hrest, hpre⟩ := hP
  obtain ⟨-, -, -, hnamed, -, -, -, hat⟩ := (Spec.applies_iff hf).mp happ
  obtain ⟨hg, hn⟩ := and_e (Cond.before_iff.mp (show (Jvm.Cond.and given_1 narrow_1).before args s = true from hpre))
  obtain ⟨gv1, gv2⟩ := and_e hg
  obtain ⟨gv3, gv4⟩ := and_e gv2
  obtain ⟨gv5, gv6⟩ := and_e gv4
  obtain ⟨gv7, gv8⟩ := and_e gv6
  obtain ⟨gv9, gv10⟩ := and_e gv8
  obtain ⟨gv11, gv12⟩ := and_e gv10
  obtain ⟨w0, w1, w2, w3, w4, w5, rfl⟩ := own_args (args := args) (by simpa [Cond.value, given_1] using gv1)
  have hw := fun d (hd : d ∈ tables_1) => atoms_spec (ws := Jvm.Cond.code x code maxLocals ret :: tables_1) hat d (List.mem_cons_of_mem _ hd)
  have hfit : Fit s := fun {y c} hc i hi => by
    obtain ⟨ha, rfl⟩ := Array.getElem?_eq_some_iff.mp hc
    have q := List.all_eq_true.mp ((Array.all_eq_true_iff_forall_mem.mp hF) _ (Array.getElem_mem ha)) i (List.mem_range.mpr hi)
    simpa [Array.getElem?_eq_getElem hi] using q
  obtain ⟨hsets, hown0⟩ := atoms_of _ (rest_1_c_eq ▸ (show rest_1_c.before _ s = true from hrest))
  have hr0 := Cond.before_iff.mp hown0
  obtain ⟨i0, ei0⟩ := is_v gv3
  obtain rfl : w0 = (.int i0) := Option.some.inj ei0
  obtain ⟨i1, ei1⟩ := is_v gv5
  obtain rfl : w1 = (.int i1) := Option.some.inj ei1
  obtain ⟨i2, ei2⟩ := is_v gv7
  obtain rfl : w2 = (.int i2) := Option.some.inj ei2
  obtain ⟨i3, ei3⟩ := is_v gv9
  obtain rfl : w3 = (.int i3) := Option.some.inj ei3
  obtain ⟨i4, ei4⟩ := is_v gv11
  obtain rfl : w4 = (.int i4) := Option.some.inj ei4
  obtain ⟨i5, ei5⟩ := is_v gv12
  obtain rfl : w5 = (.int i5) := Option.some.inj ei5
  obtain ⟨zc, ezc⟩ := is_v (Cond.before_iff.mp (hsets _ (List.mem_of_getElem? (i := 1) rfl)))
  have O2 := Sta.start ezc (Or.inl (hsets _ (List.mem_of_getElem? (i := 0) rfl)))
  have P5 : ¬ zc = 0 := gotF (Cond.eq_ints ezc (Term.int_eval (0 : Int32))) (by simpa using not_v (Cond.before_iff.mp (hsets _ (List.mem_of_getElem? (i := 2) rfl))))
  obtain ⟨nn0, mm0⟩ := and_e hn
  obtain ⟨nn1, mm1⟩ := and_e mm0
  obtain ⟨nn2, mm2⟩ := and_e mm1
  obtain ⟨nn3, mm3⟩ := and_e mm2
  obtain ⟨nn4, mm4⟩ := and_e mm3
  obtain ⟨nn5, mm5⟩ := and_e mm4
  obtain ⟨nn6, mm6⟩ := and_e mm5
  obtain ⟨o0, ev0⟩ := exa_v nn0
  have S0 := Sta.start ev0 (Or.inr ⟨(hw _ (List.mem_of_getElem? (i := 44) rfl)), (hw _ (List.mem_of_getElem? (i := 45) rfl))⟩)
  have X0x := Exa.start ev0 nn0
  have D0 := own_fi mm6 ev0
  obtain ⟨o1, ev1⟩ := exa_v nn2
  have S1 := Sta.start ev1 (Or.inr ⟨(hw _ (List.mem_of_getElem? (i := 44) rfl)), (hw _ (List.mem_of_getElem? (i := 94) rfl))⟩)
  have X1x := Exa.start ev1 nn2
  have D1 := own_fi nn4 ev1
  obtain ⟨o2, ev2⟩ := exa_v nn1
  have S2 := Sta.start ev2 (Or.inr ⟨(hw _ (List.mem_of_getElem? (i := 44) rfl)), (hw _ (List.mem_of_getElem? (i := 92) rfl))⟩)
  have X2x := Exa.start ev2 nn1
  have D2 := own_fi nn6 ev2
  obtain ⟨o3, ev3⟩ := exa_v nn3
  have S3 := Sta.start ev3 (Or.inr ⟨(hw _ (List.mem_of_getElem? (i := 44) rfl)), (hw _ (List.mem_of_getElem? (i := 96) rfl))⟩)
  have X3x := Exa.start ev3 nn3
  have D3 := own_fi nn5 ev3
  have n01 : o0 ≠ o1 := Fld.ne D0 D1 (by decide)
  have n02 : o0 ≠ o2 := Fld.ne D0 D2 (by decide)
  have n03 : o0 ≠ o3 := Fld.ne D0 D3 (by decide)
  have n12 : o1 ≠ o2 := Fld.ne D1 D2 (by decide)
  have n13 : o1 ≠ o3 := Fld.ne D1 D3 (by decide)
  have n23 : o2 ≠ o3 := Fld.ne D2 D3 (by decide)
  have hCH : CHv s own_EL s.vm s.heap := CHv.start (own_hEL hw) (fun p hp => hcalls.1 p (by simp only [own_EL, List.mem_cons, List.not_mem_nil, or_false] at hp; subst hp; decide)) (hsets _ (List.mem_of_getElem? (i := 2) rfl)) (hw _ (List.mem_of_getElem? (i := 19) rfl)) (hw _ (List.mem_of_getElem? (i := 5) rfl))
  obtain ⟨n, o, h1, h2, h3, _, L, rfl, ⟨rfl, N⟩, -, hq⟩ := rm0 l s _ hw tables_1 i0 i1 i2 i3 i4 i5 zc o0 o1 o2 o3 s.heap s.heap.size (Nat.le_refl _) (Old.start s) O2 P5 S0 S1 S2 S3 X0x X1x X2x X3x n01 n02 n03 n12 n13 n23 p e ha hc hk s m _ below hf ((Spec.applies_iff_loose hf).mp happ).1 ⟨rfl, State.Warmed39.refl s, rfl, hCH⟩ trivial
  refine ⟨n, _, h1, h2, h3, hpost _ _ _ _ _ _ ⟨Cond.after_iff.mpr rfl, Cond.after_iff.mpr (eq_i res_at (Term.int_eval (1)) rfl), trivial⟩ ⟨hq.1, hq.2.1, hq.2.2.1, (hq.2.2.2.sift fun y hy => Or.inr (N y hy)).mono (by decide) (by decide)⟩⟩
theorem main_1_1 : Claimed_1_1 := comes_1 fun _ _ _ _ _ _ h hF => ⟨h.1, hF⟩
theorem main_1_2 : Claimed_1_2 := comes_1 fun _ _ _ _ _ _ h hF => ⟨h.2.1, hF⟩
end Jvm.Pilot.@@N@@
namespace Jvm.Pilot.@@N@@
open Jvm Jvm.ClassFile Sem Op Lib Jvm.Free Jvm.Stand Jvm.Pilot.@@N@@.Jvm.D
/-! MADE BY PROGRAM (witnessworld.py) out of the Statement's table words and the real class files: 23 classes; the members and pool entries that the words name. The judged class is class 1, her method 1. -/
namespace start1
open Jvm.ClassFile
def u (s : String) : CpInfo := .utf8 (stringToUtf16 s)
/-- a pool by its gaps: so many unusable entries, then the entry; so many at the end -/
def gap : Nat → List CpInfo → List CpInfo
  | 0, r => r
  | n + 1, r => .unusable :: gap n r
def poolList (es : List (Nat × CpInfo)) (last : Nat) : List CpInfo := es.foldr (fun e r => gap e.1 (e.2 :: r)) (gap last [])
def pool (es : List (Nat × CpInfo)) (last : Nat) : Array CpInfo := ⟨poolList es last⟩
def fileOf (pool : Array CpInfo) (this : Nat) (attrs : Array Attribute := #[]) (ms : Array MethodInfo := #[]) (fl : Nat := 33) (sup : Nat := 0) (ifs : Array Nat := #[]) (fds : Array FieldInfo := #[]) : ClassFile where
  minorVersion := 0
  majorVersion := 65
  constantPool := pool
  accessFlags := fl
  thisClass := this
  superClass := sup
  interfaces := ifs
  fields := fds
  methods := ms
  attributes := attrs
def plain (name : String) (sup : Option ClassId) : Class where
  name := name
  kind := .ordinary
  loader := none
  accessFlags := 33
  super := sup
  interfaces := #[]
  cf := none
  fields := #[]
  methods := #[]
  instanceTypes := #[]
  staticTypes := #[]
  resolved := #[]
  callSites := []
  init := .initialized
  statics := none
  mirror := none

def pool0 : Array CpInfo := pool [(5, u "<init>"), (0, u "()V"), (1, .class_ 10), (1, u "java/lang/Object")] 113

def k0c0 : Code := { maxStack := 0, maxLocals := 1, code := object_method_1_code, exceptionTable := #[], attributes := #[] }
def k0m0 : Method := { name := "<init>", desc := "()V", sig := { parameters := [], returnType := none }, accessFlags := 1, code := some k0c0 }
/-- java/lang/Object -/
def k0 : Class := { plain "java/lang/Object" none with
  accessFlags := 33
  interfaces := #[]
  cf := some (fileOf pool0 8 #[] #[{ accessFlags := 1, nameIndex := 5, descriptorIndex := 6, attributes := #[] }] 33 0 #[] #[])
  fields := #[]
  methods := #[k0m0]
  instanceTypes := #[]
  staticTypes := #[]
  resolved := Array.replicate 124 none
  statics := none }

def pool1 : Array CpInfo := pool [(2, .class_ 4), (1, u "java/lang/Object"), (0, u "<init>"), (0, u "()V"), (0, .methodref 8 9), (0, .class_ 10), (0, .nameAndType 11 12), (0, u "com/example/cores_from_twigs/coresfromtwigs/constraints/ConstraintEqualsPinLaw"), (0, u "str"), (0, u "(I)Ljava/lang/String;"), (0, .methodref 8 14), (0, .nameAndType 15 16), (0, u "rel"), (0, u "(I)Lcom/example/cores_from_twigs/coresfromtwigs/constraints/Relation;"), (0, .class_ 18), (0, u "com/example/cores_from_twigs/coresfromtwigs/constraints/Constraint"), (0, .methodref 17 20), (0, .nameAndType 5 21), (0, u "(Ljava/lang/String;Lcom/example/cores_from_twigs/coresfromtwigs/constraints/Relation;Ljava/lang/String;)V"), (0, .methodref 8 23), (0, .nameAndType 24 25), (0, u "same"), (0, u "(II)Z"), (0, .methodref 17 27), (0, .nameAndType 28 29), (0, u "equals"), (0, u "(Ljava/lang/Object;)Z"), (0, .class_ 31), (0, u "java/lang/String"), (0, .methodref 30 33), (0, .nameAndType 5 34), (0, u "([C)V"), (0, .methodref 8 36), (0, .nameAndType 37 38), (0, u "ch"), (0, u "(II)C"), (0, .fieldref 40 41), (0, .class_ 42), (0, .nameAndType 43 44), (0, u "com/example/cores_from_twigs/coresfromtwigs/constraints/Relation"), (0, u "CHILD"), (0, u "Lcom/example/cores_from_twigs/coresfromtwigs/constraints/Relation;"), (0, .fieldref 40 46), (0, .nameAndType 47 44), (0, u "DESCENDANT"), (0, .fieldref 40 49), (0, .nameAndType 50 44), (0, u "PARENT"), (0, .fieldref 40 52), (0, .nameAndType 53 44), (0, u "ANCESTOR"), (2, u "law"), (0, u "(IIIIII)Z")] 3

def k1m0 : Method := { name := "<init>", desc := "()V", sig := { parameters := [], returnType := none }, accessFlags := 1, code := none }
def k1c1 : Code := { maxStack := 5, maxLocals := 21, code := code, exceptionTable := #[], attributes := #[] }
def k1m1 : Method := { name := "law", desc := "(IIIIII)Z", sig := { parameters := [.int, .int, .int, .int, .int, .int], returnType := some .boolean }, accessFlags := 9, code := some k1c1 }
def k1c2 : Code := { maxStack := 4, maxLocals := 2, code := method_3_code, exceptionTable := #[], attributes := #[] }
def k1m2 : Method := { name := "ch", desc := "(II)C", sig := { parameters := [.int, .int], returnType := some .char }, accessFlags := 10, code := some k1c2 }
def k1c3 : Code := { maxStack := 7, maxLocals := 2, code := method_4_code, exceptionTable := #[], attributes := #[] }
def k1m3 : Method := { name := "str", desc := "(I)Ljava/lang/String;", sig := { parameters := [.int], returnType := some (.object "java/lang/String") }, accessFlags := 10, code := some k1c3 }
def k1c4 : Code := { maxStack := 3, maxLocals := 3, code := method_5_code, exceptionTable := #[], attributes := #[] }
def k1m4 : Method := { name := "same", desc := "(II)Z", sig := { parameters := [.int, .int], returnType := some .boolean }, accessFlags := 10, code := some k1c4 }
def k1c5 : Code := { maxStack := 2, maxLocals := 1, code := method_6_code, exceptionTable := #[], attributes := #[] }
def k1m5 : Method := { name := "rel", desc := "(I)Lcom/example/cores_from_twigs/coresfromtwigs/constraints/Relation;", sig := { parameters := [.int], returnType := some (.object "com/example/cores_from_twigs/coresfromtwigs/constraints/Relation") }, accessFlags := 10, code := some k1c5 }
/-- com/example/cores_from_twigs/coresfromtwigs/constraints/ConstraintEqualsPinLaw -/
def k1 : Class := { plain "com/example/cores_from_twigs/coresfromtwigs/constraints/ConstraintEqualsPinLaw" (some 0) with
  accessFlags := 49
  interfaces := #[]
  cf := some (fileOf pool1 8 #[] #[{ accessFlags := 1, nameIndex := 5, descriptorIndex := 6, attributes := #[] }, { accessFlags := 9, nameIndex := 56, descriptorIndex := 57, attributes := #[] }, { accessFlags := 10, nameIndex := 37, descriptorIndex := 38, attributes := #[] }, { accessFlags := 10, nameIndex := 11, descriptorIndex := 12, attributes := #[] }, { accessFlags := 10, nameIndex := 24, descriptorIndex := 25, attributes := #[] }, { accessFlags := 10, nameIndex := 15, descriptorIndex := 16, attributes := #[] }] 49 2 #[] #[])
  fields := #[]
  methods := #[k1m0, k1m1, k1m2, k1m3, k1m4, k1m5]
  instanceTypes := #[]
  staticTypes := #[]
  resolved := Array.replicate 61 none
  statics := none }

def pool2 : Array CpInfo := pool [(1, .class_ 2), (0, u "java/io/Serializable"), (0, .class_ 4), (0, u "java/lang/Object")] 2

/-- java/io/Serializable -/
def k2 : Class := { plain "java/io/Serializable" (some 0) with
  accessFlags := 1537
  interfaces := #[]
  cf := some (fileOf pool2 1 #[] #[] 1537 3 #[] #[])
  fields := #[]
  methods := #[]
  instanceTypes := #[]
  staticTypes := #[]
  resolved := Array.replicate 7 none
  statics := none }

def pool3 : Array CpInfo := pool [(1, .class_ 2), (0, u "java/lang/Comparable"), (0, .class_ 4), (0, u "java/lang/Object")] 7

/-- java/lang/Comparable -/
def k3 : Class := { plain "java/lang/Comparable" (some 0) with
  accessFlags := 1537
  interfaces := #[]
  cf := some (fileOf pool3 1 #[] #[] 1537 3 #[] #[])
  fields := #[]
  methods := #[]
  instanceTypes := #[]
  staticTypes := #[]
  resolved := Array.replicate 12 none
  statics := none }

def pool4 : Array CpInfo := pool [(2, .class_ 4), (1, u "java/lang/CharSequence"), (42, .class_ 48), (0, u "java/lang/CharSequence$1CodePointIterator"), (10, .class_ 60), (0, u "java/lang/CharSequence$1CharIterator"), (5, .class_ 67), (0, u "java/lang/Object")] 63

/-- java/lang/CharSequence -/
def k4 : Class := { plain "java/lang/CharSequence" (some 0) with
  accessFlags := 1537
  interfaces := #[]
  cf := some (fileOf pool4 2 #[.nestMembers #[47, 59]] #[] 1537 66 #[] #[])
  fields := #[]
  methods := #[]
  instanceTypes := #[]
  staticTypes := #[]
  resolved := Array.replicate 131 none
  statics := none }

def pool5 : Array CpInfo := pool [(1, .class_ 2), (0, u "java/lang/constant/Constable"), (0, .class_ 4), (0, u "java/lang/Object")] 6

/-- java/lang/constant/Constable -/
def k5 : Class := { plain "java/lang/constant/Constable" (some 0) with
  accessFlags := 1537
  interfaces := #[]
  cf := some (fileOf pool5 1 #[] #[] 1537 3 #[] #[])
  fields := #[]
  methods := #[]
  instanceTypes := #[]
  staticTypes := #[]
  resolved := Array.replicate 11 none
  statics := none }

def pool6 : Array CpInfo := pool [(1, .class_ 2), (0, u "java/lang/constant/ConstantDesc"), (0, .class_ 4), (0, u "java/lang/Object")] 32

/-- java/lang/constant/ConstantDesc -/
def k6 : Class := { plain "java/lang/constant/ConstantDesc" (some 0) with
  accessFlags := 1537
  interfaces := #[]
  cf := some (fileOf pool6 1 #[] #[] 1537 3 #[] #[])
  fields := #[]
  methods := #[]
  instanceTypes := #[]
  staticTypes := #[]
  resolved := Array.replicate 37 none
  statics := none }

def pool7 : Array CpInfo := pool [(1, .methodref 2 3), (0, .class_ 4), (0, .nameAndType 5 6), (0, u "java/lang/Object"), (0, u "<init>"), (0, u "()V"), (0, .string 8), (0, u ""), (0, .fieldref 10 11), (0, .class_ 12), (0, .nameAndType 13 14), (0, u "java/lang/String"), (0, u "value"), (0, u "[B"), (0, .fieldref 10 16), (0, .nameAndType 17 18), (0, u "coder"), (0, u "B"), (2, u "hash"), (0, u "I"), (2, u "hashIsZero"), (0, u "Z"), (0, .methodref 10 28), (0, .nameAndType 5 29), (0, u "([CIILjava/lang/Void;)V"), (8, .fieldref 10 39), (0, .nameAndType 40 26), (0, u "COMPACT_STRINGS"), (1, .class_ 44), (1, u "java/lang/StringUTF16"), (0, u "compress"), (1, .methodref 42 48), (0, .nameAndType 49 50), (0, u "coderFromArrayLen"), (0, u "([BI)B"), (56, .class_ 109), (1, u "java/lang/StringLatin1"), (67, .methodref 42 178), (0, .nameAndType 45 179), (0, u "([CII)[B"), (361, .methodref 107 542), (0, .nameAndType 543 544), (0, u "equals"), (0, u "([B[B)Z"), (28, u "(Ljava/lang/Object;)Z"), (1, .class_ 576), (0, u "java/lang/CharSequence"), (22, u "CASE_INSENSITIVE_ORDER"), (0, u "Ljava/util/Comparator;"), (409, u "([C)V"), (90, u "serialPersistentFields"), (0, u "[Ljava/io/ObjectStreamField;"), (0, .class_ 1104), (0, u "java/lang/String$CaseInsensitiveComparator"), (1, .class_ 1107), (0, u "java/io/Serializable"), (0, .class_ 1109), (0, u "java/lang/Comparable"), (0, .class_ 1111), (0, u "java/lang/constant/Constable"), (0, .class_ 1113), (0, u "java/lang/constant/ConstantDesc"), (2, u "serialVersionUID"), (0, u "J"), (3, u "REPL"), (0, u "C"), (2, u "LATIN1"), (1, u "UTF16")] 323

def k7m0 : Method := { name := "<init>", desc := "()V", sig := { parameters := [], returnType := none }, accessFlags := 1, code := none }
def k7c1 : Code := { maxStack := 5, maxLocals := 2, code := jdk_42_method_3_code, exceptionTable := #[], attributes := #[] }
def k7m1 : Method := { name := "<init>", desc := "([C)V", sig := { parameters := [(.array .char)], returnType := none }, accessFlags := 1, code := some k7c1 }
def k7c2 : Code := { maxStack := 2, maxLocals := 3, code := jdk_42_method_66_code, exceptionTable := #[], attributes := #[] }
def k7m2 : Method := { name := "equals", desc := "(Ljava/lang/Object;)Z", sig := { parameters := [(.object "java/lang/Object")], returnType := some .boolean }, accessFlags := 1, code := some k7c2 }
def k7c3 : Code := { maxStack := 4, maxLocals := 6, code := jdk_42_method_149_code, exceptionTable := #[], attributes := #[] }
def k7m3 : Method := { name := "<init>", desc := "([CIILjava/lang/Void;)V", sig := { parameters := [(.array .char), .int, .int, (.object "java/lang/Void")], returnType := none }, accessFlags := 2, code := some k7c3 }
/-- java/lang/String -/
def k7 : Class := { plain "java/lang/String" (some 0) with
  accessFlags := 49
  interfaces := #[2, 3, 4, 5, 6]
  cf := some (fileOf pool7 10 #[.nestMembers #[1103]] #[{ accessFlags := 1, nameIndex := 5, descriptorIndex := 6, attributes := #[] }, { accessFlags := 1, nameIndex := 5, descriptorIndex := 1010, attributes := #[] }, { accessFlags := 1, nameIndex := 543, descriptorIndex := 573, attributes := #[] }, { accessFlags := 2, nameIndex := 5, descriptorIndex := 29, attributes := #[] }] 49 2 #[1106, 1108, 575, 1110, 1112] #[{ accessFlags := 18, nameIndex := 13, descriptorIndex := 14, attributes := #[] }, { accessFlags := 18, nameIndex := 17, descriptorIndex := 18, attributes := #[] }, { accessFlags := 2, nameIndex := 21, descriptorIndex := 22, attributes := #[] }, { accessFlags := 2, nameIndex := 25, descriptorIndex := 26, attributes := #[] }, { accessFlags := 26, nameIndex := 1116, descriptorIndex := 1117, attributes := #[] }, { accessFlags := 24, nameIndex := 40, descriptorIndex := 26, attributes := #[] }, { accessFlags := 26, nameIndex := 1101, descriptorIndex := 1102, attributes := #[] }, { accessFlags := 26, nameIndex := 1121, descriptorIndex := 1122, attributes := #[] }, { accessFlags := 25, nameIndex := 599, descriptorIndex := 600, attributes := #[] }, { accessFlags := 24, nameIndex := 1125, descriptorIndex := 18, attributes := #[] }, { accessFlags := 24, nameIndex := 1127, descriptorIndex := 18, attributes := #[] }])
  fields := #[{ name := "value", type := (.array .byte), accessFlags := 18, slot := 0, constantValue := 0 }, { name := "coder", type := .byte, accessFlags := 18, slot := 1, constantValue := 0 }, { name := "hash", type := .int, accessFlags := 2, slot := 2, constantValue := 0 }, { name := "hashIsZero", type := .boolean, accessFlags := 2, slot := 3, constantValue := 0 }, { name := "serialVersionUID", type := .long, accessFlags := 26, slot := 0, constantValue := 0 }, { name := "COMPACT_STRINGS", type := .boolean, accessFlags := 24, slot := 1, constantValue := 0 }, { name := "serialPersistentFields", type := (.array (.object "java/io/ObjectStreamField")), accessFlags := 26, slot := 2, constantValue := 0 }, { name := "REPL", type := .char, accessFlags := 26, slot := 3, constantValue := 0 }, { name := "CASE_INSENSITIVE_ORDER", type := (.object "java/util/Comparator"), accessFlags := 25, slot := 4, constantValue := 0 }, { name := "LATIN1", type := .byte, accessFlags := 24, slot := 5, constantValue := 0 }, { name := "UTF16", type := .byte, accessFlags := 24, slot := 6, constantValue := 0 }]
  methods := #[k7m0, k7m1, k7m2, k7m3]
  instanceTypes := #[(.array .byte), .byte, .int, .boolean]
  staticTypes := #[.long, .boolean, (.array (.object "java/io/ObjectStreamField")), .char, (.object "java/util/Comparator"), .byte, .byte]
  resolved := Array.replicate 1451 none
  statics := some 0 }

def pool8 : Array CpInfo := pool [(6, .class_ 8), (1, u "java/lang/Object"), (0, u "<init>"), (0, u "()V"), (1, .class_ 14), (1, u "java/lang/StringUTF16"), (31, u "$assertionsDisabled"), (0, u "Z"), (13, u "HI_BYTE_SHIFT"), (0, u "I"), (2, u "LO_BYTE_SHIFT"), (49, .methodref 12 116), (0, .nameAndType 117 118), (0, u "compress"), (0, u "([CI[BII)I"), (3, u "([CII)[B"), (138, u "coderFromArrayLen"), (0, u "([BI)B"), (106, .class_ 371), (1, u "java/lang/StringUTF16$LinesSpliterator"), (58, u "MAX_LENGTH"), (196, .class_ 628), (0, u "java/lang/StringUTF16$CodePointsSpliterator"), (0, .class_ 630), (0, u "java/lang/StringUTF16$CharsSpliterator")] 4

def k8m0 : Method := { name := "<init>", desc := "()V", sig := { parameters := [], returnType := none }, accessFlags := 0, code := none }
def k8c1 : Code := { maxStack := 2, maxLocals := 2, code := jdk_52_method_15_code, exceptionTable := #[], attributes := #[] }
def k8m1 : Method := { name := "coderFromArrayLen", desc := "([BI)B", sig := { parameters := [(.array .byte), .int], returnType := some .byte }, accessFlags := 8, code := some k8c1 }
def k8c2 : Code := { maxStack := 5, maxLocals := 6, code := jdk_52_method_16_code, exceptionTable := #[], attributes := #[] }
def k8m2 : Method := { name := "compress", desc := "([CII)[B", sig := { parameters := [(.array .char), .int, .int], returnType := some (.array .byte) }, accessFlags := 9, code := some k8c2 }
def k8c3 : Code := { maxStack := 3, maxLocals := 7, code := jdk_52_method_21_code, exceptionTable := #[], attributes := #[] }
def k8m3 : Method := { name := "compress", desc := "([CI[BII)I", sig := { parameters := [(.array .char), .int, (.array .byte), .int, .int], returnType := some .int }, accessFlags := 9, code := some k8c3 }
/-- java/lang/StringUTF16 -/
def k8 : Class := { plain "java/lang/StringUTF16" (some 0) with
  accessFlags := 48
  interfaces := #[]
  cf := some (fileOf pool8 12 #[.nestMembers #[627, 629, 369]] #[{ accessFlags := 0, nameIndex := 9, descriptorIndex := 10, attributes := #[] }, { accessFlags := 8, nameIndex := 261, descriptorIndex := 262, attributes := #[] }, { accessFlags := 9, nameIndex := 117, descriptorIndex := 122, attributes := #[] }, { accessFlags := 9, nameIndex := 117, descriptorIndex := 118, attributes := #[] }] 48 6 #[] #[{ accessFlags := 26, nameIndex := 61, descriptorIndex := 62, attributes := #[] }, { accessFlags := 26, nameIndex := 65, descriptorIndex := 62, attributes := #[] }, { accessFlags := 24, nameIndex := 430, descriptorIndex := 62, attributes := #[] }, { accessFlags := 4120, nameIndex := 46, descriptorIndex := 47, attributes := #[] }])
  fields := #[{ name := "HI_BYTE_SHIFT", type := .int, accessFlags := 26, slot := 0, constantValue := 0 }, { name := "LO_BYTE_SHIFT", type := .int, accessFlags := 26, slot := 1, constantValue := 0 }, { name := "MAX_LENGTH", type := .int, accessFlags := 24, slot := 2, constantValue := 0 }, { name := "$assertionsDisabled", type := .boolean, accessFlags := 4120, slot := 3, constantValue := 0 }]
  methods := #[k8m0, k8m1, k8m2, k8m3]
  instanceTypes := #[]
  staticTypes := #[.int, .int, .int, .boolean]
  resolved := Array.replicate 635 none
  statics := none }

def pool9 : Array CpInfo := pool [(2, .class_ 4), (1, u "java/lang/Enum"), (0, u "name"), (0, u "Ljava/lang/String;"), (2, u "ordinal"), (0, u "I"), (1, .class_ 14), (1, u "java/lang/Object"), (4, u "hash"), (86, .class_ 108), (1, u "java/lang/Enum$EnumDesc"), (2, .class_ 112), (0, u "java/lang/constant/Constable"), (0, .class_ 114), (0, u "java/lang/Comparable"), (0, .class_ 116), (0, u "java/io/Serializable")] 87

/-- java/lang/Enum -/
def k9 : Class := { plain "java/lang/Enum" (some 0) with
  accessFlags := 1057
  interfaces := #[5, 3, 2]
  cf := some (fileOf pool9 2 #[.nestMembers #[106]] #[] 1057 12 #[111, 113, 115] #[{ accessFlags := 18, nameIndex := 5, descriptorIndex := 6, attributes := #[] }, { accessFlags := 18, nameIndex := 9, descriptorIndex := 10, attributes := #[] }, { accessFlags := 2, nameIndex := 19, descriptorIndex := 10, attributes := #[] }])
  fields := #[{ name := "name", type := (.object "java/lang/String"), accessFlags := 18, slot := 0, constantValue := 0 }, { name := "ordinal", type := .int, accessFlags := 18, slot := 1, constantValue := 0 }, { name := "hash", type := .int, accessFlags := 2, slot := 2, constantValue := 0 }]
  methods := #[]
  instanceTypes := #[(.object "java/lang/String"), .int, .int]
  staticTypes := #[]
  resolved := Array.replicate 204 none
  statics := none }

def pool10 : Array CpInfo := pool [(1, .class_ 2), (0, u "com/example/cores_from_twigs/coresfromtwigs/constraints/Relation"), (2, u "CHILD"), (0, u "Lcom/example/cores_from_twigs/coresfromtwigs/constraints/Relation;"), (2, u "DESCENDANT"), (2, u "PARENT"), (2, u "ANCESTOR"), (2, u "$VALUES"), (0, u "[Lcom/example/cores_from_twigs/coresfromtwigs/constraints/Relation;"), (6, .class_ 28), (1, u "java/lang/Enum"), (8, u "word"), (0, u "Ljava/lang/String;")] 32

/-- com/example/cores_from_twigs/coresfromtwigs/constraints/Relation -/
def k10 : Class := { plain "com/example/cores_from_twigs/coresfromtwigs/constraints/Relation" (some 9) with
  accessFlags := 16433
  interfaces := #[]
  cf := some (fileOf pool10 1 #[] #[] 16433 26 #[] #[{ accessFlags := 16409, nameIndex := 5, descriptorIndex := 6, attributes := #[] }, { accessFlags := 16409, nameIndex := 9, descriptorIndex := 6, attributes := #[] }, { accessFlags := 16409, nameIndex := 12, descriptorIndex := 6, attributes := #[] }, { accessFlags := 16409, nameIndex := 15, descriptorIndex := 6, attributes := #[] }, { accessFlags := 18, nameIndex := 37, descriptorIndex := 38, attributes := #[] }, { accessFlags := 4122, nameIndex := 18, descriptorIndex := 19, attributes := #[] }])
  fields := #[{ name := "CHILD", type := (.object "com/example/cores_from_twigs/coresfromtwigs/constraints/Relation"), accessFlags := 16409, slot := 0, constantValue := 0 }, { name := "DESCENDANT", type := (.object "com/example/cores_from_twigs/coresfromtwigs/constraints/Relation"), accessFlags := 16409, slot := 1, constantValue := 0 }, { name := "PARENT", type := (.object "com/example/cores_from_twigs/coresfromtwigs/constraints/Relation"), accessFlags := 16409, slot := 2, constantValue := 0 }, { name := "ANCESTOR", type := (.object "com/example/cores_from_twigs/coresfromtwigs/constraints/Relation"), accessFlags := 16409, slot := 3, constantValue := 0 }, { name := "word", type := (.object "java/lang/String"), accessFlags := 18, slot := 3, constantValue := 0 }, { name := "$VALUES", type := (.array (.object "com/example/cores_from_twigs/coresfromtwigs/constraints/Relation")), accessFlags := 4122, slot := 4, constantValue := 0 }]
  methods := #[]
  instanceTypes := #[(.object "java/lang/String"), .int, .int, (.object "java/lang/String")]
  staticTypes := #[(.object "com/example/cores_from_twigs/coresfromtwigs/constraints/Relation"), (.object "com/example/cores_from_twigs/coresfromtwigs/constraints/Relation"), (.object "com/example/cores_from_twigs/coresfromtwigs/constraints/Relation"), (.object "com/example/cores_from_twigs/coresfromtwigs/constraints/Relation"), (.array (.object "com/example/cores_from_twigs/coresfromtwigs/constraints/Relation"))]
  resolved := Array.replicate 71 none
  statics := some 1 }

def pool11 : Array CpInfo := pool [(1, .methodref 2 3), (0, .class_ 4), (0, .nameAndType 5 6), (0, u "java/lang/Object"), (0, u "<init>"), (0, u "()V"), (0, .string 8), (0, u "subject"), (0, .methodref 10 11), (0, .class_ 12), (0, .nameAndType 13 14), (0, u "java/util/Objects"), (0, u "requireNonNull"), (0, u "(Ljava/lang/Object;Ljava/lang/String;)Ljava/lang/Object;"), (0, .class_ 16), (0, u "java/lang/String"), (0, .fieldref 18 19), (0, .class_ 20), (0, .nameAndType 8 21), (0, u "com/example/cores_from_twigs/coresfromtwigs/constraints/Constraint"), (0, u "Ljava/lang/String;"), (0, .string 23), (0, u "relation"), (0, .class_ 25), (0, u "com/example/cores_from_twigs/coresfromtwigs/constraints/Relation"), (0, .fieldref 18 27), (0, .nameAndType 23 28), (0, u "Lcom/example/cores_from_twigs/coresfromtwigs/constraints/Relation;"), (0, .string 30), (0, u "object"), (0, .fieldref 18 32), (0, .nameAndType 30 21), (0, .class_ 34), (0, u "com/example/cores_from_twigs/coresfromtwigs/constraints/Constraint$Words"), (22, u "(Ljava/lang/String;Lcom/example/cores_from_twigs/coresfromtwigs/constraints/Relation;Ljava/lang/String;)V"), (0, .methodref 15 59), (0, .nameAndType 60 61), (0, u "equals"), (0, u "(Ljava/lang/Object;)Z")] 41

def k11c0 : Code := { maxStack := 3, maxLocals := 4, code := prog_6_method_1_code, exceptionTable := #[], attributes := #[] }
def k11m0 : Method := { name := "<init>", desc := "(Ljava/lang/String;Lcom/example/cores_from_twigs/coresfromtwigs/constraints/Relation;Ljava/lang/String;)V", sig := { parameters := [(.object "java/lang/String"), (.object "com/example/cores_from_twigs/coresfromtwigs/constraints/Relation"), (.object "java/lang/String")], returnType := none }, accessFlags := 1, code := some k11c0 }
def k11c1 : Code := { maxStack := 2, maxLocals := 3, code := prog_6_method_6_code, exceptionTable := #[], attributes := #[] }
def k11m1 : Method := { name := "equals", desc := "(Ljava/lang/Object;)Z", sig := { parameters := [(.object "java/lang/Object")], returnType := some .boolean }, accessFlags := 1, code := some k11c1 }
/-- com/example/cores_from_twigs/coresfromtwigs/constraints/Constraint -/
def k11 : Class := { plain "com/example/cores_from_twigs/coresfromtwigs/constraints/Constraint" (some 0) with
  accessFlags := 49
  interfaces := #[]
  cf := some (fileOf pool11 18 #[.nestMembers #[33]] #[{ accessFlags := 1, nameIndex := 5, descriptorIndex := 57, attributes := #[] }, { accessFlags := 1, nameIndex := 60, descriptorIndex := 61, attributes := #[] }] 49 2 #[] #[{ accessFlags := 18, nameIndex := 8, descriptorIndex := 21, attributes := #[] }, { accessFlags := 18, nameIndex := 23, descriptorIndex := 28, attributes := #[] }, { accessFlags := 18, nameIndex := 30, descriptorIndex := 21, attributes := #[] }])
  fields := #[{ name := "subject", type := (.object "java/lang/String"), accessFlags := 18, slot := 0, constantValue := 0 }, { name := "relation", type := (.object "com/example/cores_from_twigs/coresfromtwigs/constraints/Relation"), accessFlags := 18, slot := 1, constantValue := 0 }, { name := "object", type := (.object "java/lang/String"), accessFlags := 18, slot := 2, constantValue := 0 }]
  methods := #[k11m0, k11m1]
  instanceTypes := #[(.object "java/lang/String"), (.object "com/example/cores_from_twigs/coresfromtwigs/constraints/Relation"), (.object "java/lang/String")]
  staticTypes := #[]
  resolved := Array.replicate 103 none
  statics := none }

def pool12 : Array CpInfo := pool [(2, .class_ 4), (1, u "java/lang/Object"), (0, u "<init>"), (0, u "()V"), (35, .class_ 44), (1, u "java/util/Objects"), (0, u "requireNonNull"), (48, u "(Ljava/lang/Object;Ljava/lang/String;)Ljava/lang/Object;")] 89

def k12m0 : Method := { name := "<init>", desc := "()V", sig := { parameters := [], returnType := none }, accessFlags := 2, code := none }
def k12c1 : Code := { maxStack := 3, maxLocals := 2, code := jdk_31_method_11_code, exceptionTable := #[], attributes := #[] }
def k12m1 : Method := { name := "requireNonNull", desc := "(Ljava/lang/Object;Ljava/lang/String;)Ljava/lang/Object;", sig := { parameters := [(.object "java/lang/Object"), (.object "java/lang/String")], returnType := some (.object "java/lang/Object") }, accessFlags := 9, code := some k12c1 }
/-- java/util/Objects -/
def k12 : Class := { plain "java/util/Objects" (some 0) with
  accessFlags := 49
  interfaces := #[]
  cf := some (fileOf pool12 42 #[] #[{ accessFlags := 2, nameIndex := 5, descriptorIndex := 6, attributes := #[] }, { accessFlags := 9, nameIndex := 45, descriptorIndex := 94, attributes := #[] }] 49 2 #[] #[])
  fields := #[]
  methods := #[k12m0, k12m1]
  instanceTypes := #[]
  staticTypes := #[]
  resolved := Array.replicate 184 none
  statics := none }

def pool13 : Array CpInfo := pool [(4, .class_ 6), (1, u "java/lang/Object"), (0, u "<init>"), (0, u "()V"), (5, .class_ 16), (1, u "java/lang/StringLatin1"), (104, u "$assertionsDisabled"), (0, u "Z"), (98, .class_ 223), (1, u "java/lang/StringLatin1$LinesSpliterator"), (57, u "equals"), (0, u "([B[B)Z"), (107, .class_ 391), (0, u "java/lang/StringLatin1$CharsSpliterator")] 3

def k13m0 : Method := { name := "<init>", desc := "()V", sig := { parameters := [], returnType := none }, accessFlags := 0, code := none }
def k13c1 : Code := { maxStack := 3, maxLocals := 3, code := jdk_43_method_13_code, exceptionTable := #[], attributes := #[] }
def k13m1 : Method := { name := "equals", desc := "([B[B)Z", sig := { parameters := [(.array .byte), (.array .byte)], returnType := some .boolean }, accessFlags := 9, code := some k13c1 }
/-- java/lang/StringLatin1 -/
def k13 : Class := { plain "java/lang/StringLatin1" (some 0) with
  accessFlags := 48
  interfaces := #[]
  cf := some (fileOf pool13 14 #[.nestMembers #[390, 221]] #[{ accessFlags := 0, nameIndex := 7, descriptorIndex := 8, attributes := #[] }, { accessFlags := 9, nameIndex := 281, descriptorIndex := 282, attributes := #[] }] 48 4 #[] #[{ accessFlags := 4120, nameIndex := 121, descriptorIndex := 122, attributes := #[] }])
  fields := #[{ name := "$assertionsDisabled", type := .boolean, accessFlags := 4120, slot := 0, constantValue := 0 }]
  methods := #[k13m0, k13m1]
  instanceTypes := #[]
  staticTypes := #[.boolean]
  resolved := Array.replicate 395 none
  statics := none }

def pool14 : Array CpInfo := pool [(2, .class_ 4), (1, u "java/lang/Object"), (0, u "<init>"), (0, u "()V"), (17, .class_ 26), (1, u "jdk/internal/util/Preconditions"), (28, .class_ 56), (0, u "jdk/internal/util/Preconditions$4"), (57, .class_ 115), (0, u "jdk/internal/util/Preconditions$1"), (7, u "SIOOBE_FORMATTER"), (0, u "Ljava/util/function/BiFunction;"), (0, .class_ 126), (0, u "jdk/internal/util/Preconditions$2"), (3, u "AIOOBE_FORMATTER"), (0, .class_ 132), (0, u "jdk/internal/util/Preconditions$3"), (3, u "IOOBE_FORMATTER")] 57

def k14m0 : Method := { name := "<init>", desc := "()V", sig := { parameters := [], returnType := none }, accessFlags := 1, code := none }
/-- jdk/internal/util/Preconditions -/
def k14 : Class := { plain "jdk/internal/util/Preconditions" (some 0) with
  accessFlags := 33
  interfaces := #[]
  cf := some (fileOf pool14 24 #[.nestMembers #[55, 131, 125, 114]] #[{ accessFlags := 1, nameIndex := 5, descriptorIndex := 6, attributes := #[] }] 33 2 #[] #[{ accessFlags := 25, nameIndex := 123, descriptorIndex := 124, attributes := #[] }, { accessFlags := 25, nameIndex := 130, descriptorIndex := 124, attributes := #[] }, { accessFlags := 25, nameIndex := 136, descriptorIndex := 124, attributes := #[] }])
  fields := #[{ name := "SIOOBE_FORMATTER", type := (.object "java/util/function/BiFunction"), accessFlags := 25, slot := 0, constantValue := 0 }, { name := "AIOOBE_FORMATTER", type := (.object "java/util/function/BiFunction"), accessFlags := 25, slot := 1, constantValue := 0 }, { name := "IOOBE_FORMATTER", type := (.object "java/util/function/BiFunction"), accessFlags := 25, slot := 2, constantValue := 0 }]
  methods := #[k14m0]
  instanceTypes := #[]
  staticTypes := #[(.object "java/util/function/BiFunction"), (.object "java/util/function/BiFunction"), (.object "java/util/function/BiFunction")]
  resolved := Array.replicate 194 none
  statics := some 2 }

def pool15 : Array CpInfo := pool [(9, u "<init>"), (6, .class_ 18), (1, u "java/lang/Object"), (0, u "()V"), (1, .class_ 23), (1, u "jdk/internal/util/ArraysSupport"), (0, u "LOG2_ARRAY_LONG_INDEX_SCALE"), (0, u "I"), (2, u "U"), (0, u "Ljdk/internal/misc/Unsafe;"), (8, u "BIG_ENDIAN"), (0, u "Z"), (8, u "LOG2_BYTE_BIT_SIZE"), (4, u "LOG2_ARRAY_INT_INDEX_SCALE"), (54, u "JLA"), (0, u "Ljdk/internal/access/JavaLangAccess;"), (11, u "LOG2_ARRAY_BOOLEAN_INDEX_SCALE"), (9, u "LOG2_ARRAY_BYTE_INDEX_SCALE"), (5, u "LOG2_ARRAY_CHAR_INDEX_SCALE"), (5, u "LOG2_ARRAY_SHORT_INDEX_SCALE"), (18, u "LOG2_ARRAY_FLOAT_INDEX_SCALE"), (24, u "LOG2_ARRAY_DOUBLE_INDEX_SCALE"), (89, u "T_BOOLEAN"), (2, u "T_CHAR"), (1, u "T_FLOAT"), (1, u "T_DOUBLE"), (1, u "T_BYTE"), (1, u "T_SHORT"), (1, u "T_INT"), (1, u "T_LONG"), (1, u "SOFT_MAX_ARRAY_LENGTH")] 83

def k15m0 : Method := { name := "<init>", desc := "()V", sig := { parameters := [], returnType := none }, accessFlags := 2, code := none }
/-- jdk/internal/util/ArraysSupport -/
def k15 : Class := { plain "jdk/internal/util/ArraysSupport" (some 0) with
  accessFlags := 33
  interfaces := #[]
  cf := some (fileOf pool15 21 #[] #[{ accessFlags := 2, nameIndex := 9, descriptorIndex := 19, attributes := #[] }] 33 16 #[] #[{ accessFlags := 24, nameIndex := 28, descriptorIndex := 29, attributes := #[] }, { accessFlags := 26, nameIndex := 38, descriptorIndex := 39, attributes := #[] }, { accessFlags := 25, nameIndex := 121, descriptorIndex := 25, attributes := #[] }, { accessFlags := 25, nameIndex := 131, descriptorIndex := 25, attributes := #[] }, { accessFlags := 25, nameIndex := 137, descriptorIndex := 25, attributes := #[] }, { accessFlags := 25, nameIndex := 143, descriptorIndex := 25, attributes := #[] }, { accessFlags := 25, nameIndex := 53, descriptorIndex := 25, attributes := #[] }, { accessFlags := 25, nameIndex := 24, descriptorIndex := 25, attributes := #[] }, { accessFlags := 25, nameIndex := 162, descriptorIndex := 25, attributes := #[] }, { accessFlags := 25, nameIndex := 187, descriptorIndex := 25, attributes := #[] }, { accessFlags := 26, nameIndex := 48, descriptorIndex := 25, attributes := #[] }, { accessFlags := 25, nameIndex := 277, descriptorIndex := 25, attributes := #[] }, { accessFlags := 25, nameIndex := 280, descriptorIndex := 25, attributes := #[] }, { accessFlags := 25, nameIndex := 282, descriptorIndex := 25, attributes := #[] }, { accessFlags := 25, nameIndex := 284, descriptorIndex := 25, attributes := #[] }, { accessFlags := 25, nameIndex := 286, descriptorIndex := 25, attributes := #[] }, { accessFlags := 25, nameIndex := 288, descriptorIndex := 25, attributes := #[] }, { accessFlags := 25, nameIndex := 290, descriptorIndex := 25, attributes := #[] }, { accessFlags := 25, nameIndex := 292, descriptorIndex := 25, attributes := #[] }, { accessFlags := 26, nameIndex := 108, descriptorIndex := 109, attributes := #[] }, { accessFlags := 25, nameIndex := 294, descriptorIndex := 25, attributes := #[] }])
  fields := #[{ name := "U", type := (.object "jdk/internal/misc/Unsafe"), accessFlags := 24, slot := 0, constantValue := 0 }, { name := "BIG_ENDIAN", type := .boolean, accessFlags := 26, slot := 1, constantValue := 0 }, { name := "LOG2_ARRAY_BOOLEAN_INDEX_SCALE", type := .int, accessFlags := 25, slot := 2, constantValue := 0 }, { name := "LOG2_ARRAY_BYTE_INDEX_SCALE", type := .int, accessFlags := 25, slot := 3, constantValue := 0 }, { name := "LOG2_ARRAY_CHAR_INDEX_SCALE", type := .int, accessFlags := 25, slot := 4, constantValue := 0 }, { name := "LOG2_ARRAY_SHORT_INDEX_SCALE", type := .int, accessFlags := 25, slot := 5, constantValue := 0 }, { name := "LOG2_ARRAY_INT_INDEX_SCALE", type := .int, accessFlags := 25, slot := 6, constantValue := 0 }, { name := "LOG2_ARRAY_LONG_INDEX_SCALE", type := .int, accessFlags := 25, slot := 7, constantValue := 0 }, { name := "LOG2_ARRAY_FLOAT_INDEX_SCALE", type := .int, accessFlags := 25, slot := 8, constantValue := 0 }, { name := "LOG2_ARRAY_DOUBLE_INDEX_SCALE", type := .int, accessFlags := 25, slot := 9, constantValue := 0 }, { name := "LOG2_BYTE_BIT_SIZE", type := .int, accessFlags := 26, slot := 10, constantValue := 0 }, { name := "T_BOOLEAN", type := .int, accessFlags := 25, slot := 11, constantValue := 0 }, { name := "T_CHAR", type := .int, accessFlags := 25, slot := 12, constantValue := 0 }, { name := "T_FLOAT", type := .int, accessFlags := 25, slot := 13, constantValue := 0 }, { name := "T_DOUBLE", type := .int, accessFlags := 25, slot := 14, constantValue := 0 }, { name := "T_BYTE", type := .int, accessFlags := 25, slot := 15, constantValue := 0 }, { name := "T_SHORT", type := .int, accessFlags := 25, slot := 16, constantValue := 0 }, { name := "T_INT", type := .int, accessFlags := 25, slot := 17, constantValue := 0 }, { name := "T_LONG", type := .int, accessFlags := 25, slot := 18, constantValue := 0 }, { name := "JLA", type := (.object "jdk/internal/access/JavaLangAccess"), accessFlags := 26, slot := 19, constantValue := 0 }, { name := "SOFT_MAX_ARRAY_LENGTH", type := .int, accessFlags := 25, slot := 20, constantValue := 0 }]
  methods := #[k15m0]
  instanceTypes := #[]
  staticTypes := #[(.object "jdk/internal/misc/Unsafe"), .boolean, .int, .int, .int, .int, .int, .int, .int, .int, .int, .int, .int, .int, .int, .int, .int, .int, .int, (.object "jdk/internal/access/JavaLangAccess"), .int]
  resolved := Array.replicate 378 none
  statics := none }

def pool16 : Array CpInfo := pool [(1, u "java/lang/Cloneable"), (0, .class_ 1), (0, u "java/lang/Object"), (0, .class_ 3)] 3

/-- java/lang/Cloneable -/
def k16 : Class := { plain "java/lang/Cloneable" (some 0) with
  accessFlags := 1537
  interfaces := #[]
  cf := some (fileOf pool16 2 #[] #[] 1537 4 #[] #[])
  fields := #[]
  methods := #[]
  instanceTypes := #[]
  staticTypes := #[]
  resolved := Array.replicate 8 none
  statics := none }

/-- the primitive byte -/
def k17 : Class := { plain "byte" none with kind := .primitive 'B', accessFlags := 0x411 }
/-- [B -/
def k18 : Class := { plain "[B" (some 0) with kind := .array 17 .byte, interfaces := #[16, 2], accessFlags := 1041 }

/-- the primitive char -/
def k19 : Class := { plain "char" none with kind := .primitive 'C', accessFlags := 0x411 }
/-- [C -/
def k20 : Class := { plain "[C" (some 0) with kind := .array 19 .char, interfaces := #[16, 2], accessFlags := 1041 }

/-- the primitive int -/
def k21 : Class := { plain "int" none with kind := .primitive 'I', accessFlags := 0x411 }
/-- [I -/
def k22 : Class := { plain "[I" (some 0) with kind := .array 21 .int, interfaces := #[16, 2], accessFlags := 1041 }

def heap : Heap := #[{ cls := 7, slots := #[.long 0, .int 1, .null, .int 0, .null, .int 0, .int 0], vm := .statics 7 },
  { cls := 10, slots := #[.ref 3, .ref 4, .ref 5, .ref 6, .null], vm := .statics 10 },
  { cls := 14, slots := #[.null, .null, .null], vm := .statics 14 },
  { cls := 10, slots := #[.null, .int 0, .int 0, .null], vm := .none },
  { cls := 10, slots := #[.null, .int 1, .int 0, .null], vm := .none },
  { cls := 10, slots := #[.null, .int 2, .int 0, .null], vm := .none },
  { cls := 10, slots := #[.null, .int 3, .int 0, .null], vm := .none }]
def classes : Array Class := #[k0, k1, k2, k3, k4, k5, k6, k7, k8, k9, k10, k11, k12, k13, k14, k15, k16, k17, k18, k19, k20, k21, k22]
def interned : List (Array UInt16 × Addr) := []
def slotsUsed : Nat := 31
def theMethod : MethodId := ⟨1, 1⟩
def args0 : Array Value := #[.int 5, .int 9, .int 0, .int 3, .int 1, .int 2]
def aboutOver (below : List Frame) : State where
  vm := { classes := classes, interned := interned.toArray }
  heap := heap
  slotsUsed := slotsUsed
  threads := #[{ frames := .invoking theMethod args0 :: below }]
def below0 : List Frame := [.native { method := ⟨0, 0⟩, args := #[] }]
def about1 : State := aboutOver below0
def p0 : Program := .bare "" "" ""
def e0 : Env := launch0.env 0 0 0
theorem w_frames : about1.frames = Frame.invoking theMethod args0 :: below0 := rfl
set_option maxRecDepth 65536 in
theorem w_args : argsFit about1.vm theMethod args0 = true := by decide +kernel
set_option maxRecDepth 65536 in
theorem w_heap : heapFits about1 = true := by decide +kernel
set_option maxRecDepth 65536 in
theorem w_runnable : about1.curStatus? = some .runnable := by decide +kernel
set_option maxRecDepth 65536 in
theorem w_alone : about1.alone = true := by decide +kernel
set_option maxRecDepth 65536 in
theorem w_named : about1.methodNamed? x = some theMethod := by decide +kernel
set_option maxRecDepth 65536 in
theorem w_hears : about1.hears theMethod below0 = true := by decide +kernel
set_option maxRecDepth 65536 in
theorem w_ripe : about1.ripe theMethod args0 below0 = true := by decide +kernel
theorem w_running : about1.status = .running := rfl
set_option maxRecDepth 65536 in
theorem w_room : about1.hasRoom e0.platform room_1 = true :=
  launch0.hasRoom_least _ room_1 (by decide +kernel) (by decide +kernel) (by decide +kernel) (by decide +kernel) (by decide +kernel) (by decide +kernel)
theorem allAtoms_all (ts : List Jvm.Cond) (a : Array Jvm.Value) (st : Jvm.State) : (allAtoms ts).before a st = ts.all (fun c => c.before a st) := by
  induction ts with
  | nil => rfl
  | cons c t ih =>
    show (Jvm.Cond.and c (allAtoms t)).before a st = _
    rw [Jvm.Cond.before_and, ih, List.all_cons]
def words1 : List Jvm.Cond := Jvm.Cond.code x code maxLocals ret :: tables_1
/-- a 'code' word, met by the world's own term for the bytes: nothing is compared byte by byte -/
theorem code_word {y : MethodName} {bytes : ByteArray} {mx : Nat} {rt : Option FieldType} {a : Array Value} {s : State} {m : MethodId} {meth : Method} {c : Code} (h1 : s.methodNamed? y = some m) (h2 : s.vm.method? m = some meth) (h3 : meth.code = some c) (h4 : c.code = bytes)
    (h5 : (c.maxLocals == mx && c.exceptionTable.isEmpty && decide (c.maxStack ≤ mostOperands) && decide (meth.sig.returnType = rt) && !meth.locks && decide (parseMethodDescriptor y.desc = some meth.sig)) = true) : (Jvm.Cond.code y bytes mx rt).before a s = true := by
  simp only [Bool.and_eq_true, beq_iff_eq, Bool.not_eq_true', decide_eq_true_eq] at h5
  obtain ⟨⟨⟨⟨⟨g1, g2⟩, g3⟩, g4⟩, g5⟩, g6⟩ := h5
  simp [Cond.before, Cond.holds, Cond.value, h1, h2, h3, h4, g1, g2, g3, g4, g5, g6]
def isCode : Jvm.Cond → Bool
  | .code _ _ _ _ => true
  | _ => false
theorem all_split {L : List Jvm.Cond} {P : Jvm.Cond → Bool} (h1 : L.all (fun c => isCode c || P c) = true) (h2 : ∀ c ∈ L.filter isCode, P c = true) : L.all P = true := by
  refine List.all_eq_true.mpr fun c hc => ?_
  have h := List.all_eq_true.mp h1 c hc
  rcases Bool.eq_false_or_eq_true (isCode c) with hi | hi
  · exact h2 c (List.mem_filter.mpr ⟨hc, hi⟩)
  · simpa [hi] using h
set_option maxRecDepth 65536 in
theorem w_c0 : (Jvm.Cond.code x code maxLocals ret).before args0 about1 = true := code_word (m := ⟨1, 1⟩) (meth := k1m1) (c := k1c1) (by decide +kernel) rfl rfl rfl (by decide +kernel)
set_option maxRecDepth 65536 in
theorem w_c1 : (Jvm.Cond.code ({ cls := "com/example/cores_from_twigs/coresfromtwigs/constraints/ConstraintEqualsPinLaw", name := "str", desc := "(I)Ljava/lang/String;" } : Jvm.MethodName) method_4_code (2 : Nat) (Option.some (Jvm.ClassFile.FieldType.object "java/lang/String"))).before args0 about1 = true := code_word (m := ⟨1, 3⟩) (meth := k1m3) (c := k1c3) (by decide +kernel) rfl rfl rfl (by decide +kernel)
set_option maxRecDepth 65536 in
theorem w_c2 : (Jvm.Cond.code ({ cls := "java/lang/String", name := "<init>", desc := "([C)V" } : Jvm.MethodName) jdk_42_method_3_code (2 : Nat) (Option.none : Option Jvm.ClassFile.FieldType)).before args0 about1 = true := code_word (m := ⟨7, 1⟩) (meth := k7m1) (c := k7c1) (by decide +kernel) rfl rfl rfl (by decide +kernel)
set_option maxRecDepth 65536 in
theorem w_c3 : (Jvm.Cond.code ({ cls := "java/lang/String", name := "<init>", desc := "([CIILjava/lang/Void;)V" } : Jvm.MethodName) jdk_42_method_149_code (6 : Nat) (Option.none : Option Jvm.ClassFile.FieldType)).before args0 about1 = true := code_word (m := ⟨7, 3⟩) (meth := k7m3) (c := k7c3) (by decide +kernel) rfl rfl rfl (by decide +kernel)
set_option maxRecDepth 65536 in
theorem w_c4 : (Jvm.Cond.code ({ cls := "java/lang/Object", name := "<init>", desc := "()V" } : Jvm.MethodName) object_method_1_code (1 : Nat) (Option.none : Option Jvm.ClassFile.FieldType)).before args0 about1 = true := code_word (m := ⟨0, 0⟩) (meth := k0m0) (c := k0c0) (by decide +kernel) rfl rfl rfl (by decide +kernel)
set_option maxRecDepth 65536 in
theorem w_c5 : (Jvm.Cond.code ({ cls := "com/example/cores_from_twigs/coresfromtwigs/constraints/ConstraintEqualsPinLaw", name := "ch", desc := "(II)C" } : Jvm.MethodName) method_3_code (2 : Nat) (Option.some Jvm.ClassFile.FieldType.char)).before args0 about1 = true := code_word (m := ⟨1, 2⟩) (meth := k1m2) (c := k1c2) (by decide +kernel) rfl rfl rfl (by decide +kernel)
set_option maxRecDepth 65536 in
theorem w_c6 : (Jvm.Cond.code ({ cls := "java/lang/StringUTF16", name := "compress", desc := "([CII)[B" } : Jvm.MethodName) jdk_52_method_16_code (6 : Nat) (Option.some (Jvm.ClassFile.FieldType.array Jvm.ClassFile.FieldType.byte))).before args0 about1 = true := code_word (m := ⟨8, 2⟩) (meth := k8m2) (c := k8c2) (by decide +kernel) rfl rfl rfl (by decide +kernel)
set_option maxRecDepth 65536 in
theorem w_c7 : (Jvm.Cond.code ({ cls := "java/lang/StringUTF16", name := "compress", desc := "([CI[BII)I" } : Jvm.MethodName) jdk_52_method_21_code (7 : Nat) (Option.some Jvm.ClassFile.FieldType.int)).before args0 about1 = true := code_word (m := ⟨8, 3⟩) (meth := k8m3) (c := k8c3) (by decide +kernel) rfl rfl rfl (by decide +kernel)
set_option maxRecDepth 65536 in
theorem w_c8 : (Jvm.Cond.code ({ cls := "java/lang/StringUTF16", name := "coderFromArrayLen", desc := "([BI)B" } : Jvm.MethodName) jdk_52_method_15_code (2 : Nat) (Option.some Jvm.ClassFile.FieldType.byte)).before args0 about1 = true := code_word (m := ⟨8, 1⟩) (meth := k8m1) (c := k8c1) (by decide +kernel) rfl rfl rfl (by decide +kernel)
set_option maxRecDepth 65536 in
theorem w_c9 : (Jvm.Cond.code ({ cls := "com/example/cores_from_twigs/coresfromtwigs/constraints/ConstraintEqualsPinLaw", name := "rel", desc := "(I)Lcom/example/cores_from_twigs/coresfromtwigs/constraints/Relation;" } : Jvm.MethodName) method_6_code (1 : Nat) (Option.some (Jvm.ClassFile.FieldType.object "com/example/cores_from_twigs/coresfromtwigs/constraints/Relation"))).before args0 about1 = true := code_word (m := ⟨1, 5⟩) (meth := k1m5) (c := k1c5) (by decide +kernel) rfl rfl rfl (by decide +kernel)
set_option maxRecDepth 65536 in
theorem w_c10 : (Jvm.Cond.code ({ cls := "com/example/cores_from_twigs/coresfromtwigs/constraints/Constraint", name := "<init>", desc := "(Ljava/lang/String;Lcom/example/cores_from_twigs/coresfromtwigs/constraints/Relation;Ljava/lang/String;)V" } : Jvm.MethodName) prog_6_method_1_code (4 : Nat) (Option.none : Option Jvm.ClassFile.FieldType)).before args0 about1 = true := code_word (m := ⟨11, 0⟩) (meth := k11m0) (c := k11c0) (by decide +kernel) rfl rfl rfl (by decide +kernel)
set_option maxRecDepth 65536 in
theorem w_c11 : (Jvm.Cond.code ({ cls := "java/util/Objects", name := "requireNonNull", desc := "(Ljava/lang/Object;Ljava/lang/String;)Ljava/lang/Object;" } : Jvm.MethodName) jdk_31_method_11_code (2 : Nat) (Option.some (Jvm.ClassFile.FieldType.object "java/lang/Object"))).before args0 about1 = true := code_word (m := ⟨12, 1⟩) (meth := k12m1) (c := k12c1) (by decide +kernel) rfl rfl rfl (by decide +kernel)
set_option maxRecDepth 65536 in
theorem w_c12 : (Jvm.Cond.code ({ cls := "com/example/cores_from_twigs/coresfromtwigs/constraints/ConstraintEqualsPinLaw", name := "same", desc := "(II)Z" } : Jvm.MethodName) method_5_code (3 : Nat) (Option.some Jvm.ClassFile.FieldType.boolean)).before args0 about1 = true := code_word (m := ⟨1, 4⟩) (meth := k1m4) (c := k1c4) (by decide +kernel) rfl rfl rfl (by decide +kernel)
set_option maxRecDepth 65536 in
theorem w_c13 : (Jvm.Cond.code ({ cls := "com/example/cores_from_twigs/coresfromtwigs/constraints/Constraint", name := "equals", desc := "(Ljava/lang/Object;)Z" } : Jvm.MethodName) prog_6_method_6_code (3 : Nat) (Option.some Jvm.ClassFile.FieldType.boolean)).before args0 about1 = true := code_word (m := ⟨11, 1⟩) (meth := k11m1) (c := k11c1) (by decide +kernel) rfl rfl rfl (by decide +kernel)
set_option maxRecDepth 65536 in
theorem w_c14 : (Jvm.Cond.code ({ cls := "java/lang/String", name := "equals", desc := "(Ljava/lang/Object;)Z" } : Jvm.MethodName) jdk_42_method_66_code (3 : Nat) (Option.some Jvm.ClassFile.FieldType.boolean)).before args0 about1 = true := code_word (m := ⟨7, 2⟩) (meth := k7m2) (c := k7c2) (by decide +kernel) rfl rfl rfl (by decide +kernel)
set_option maxRecDepth 65536 in
theorem w_c15 : (Jvm.Cond.code ({ cls := "java/lang/StringLatin1", name := "equals", desc := "([B[B)Z" } : Jvm.MethodName) jdk_43_method_13_code (3 : Nat) (Option.some Jvm.ClassFile.FieldType.boolean)).before args0 about1 = true := code_word (m := ⟨13, 1⟩) (meth := k13m1) (c := k13c1) (by decide +kernel) rfl rfl rfl (by decide +kernel)
def codes1 : List Jvm.Cond := [Jvm.Cond.code x code maxLocals ret, Jvm.Cond.code ({ cls := "com/example/cores_from_twigs/coresfromtwigs/constraints/ConstraintEqualsPinLaw", name := "str", desc := "(I)Ljava/lang/String;" } : Jvm.MethodName) method_4_code (2 : Nat) (Option.some (Jvm.ClassFile.FieldType.object "java/lang/String")), Jvm.Cond.code ({ cls := "java/lang/String", name := "<init>", desc := "([C)V" } : Jvm.MethodName) jdk_42_method_3_code (2 : Nat) (Option.none : Option Jvm.ClassFile.FieldType), Jvm.Cond.code ({ cls := "java/lang/String", name := "<init>", desc := "([CIILjava/lang/Void;)V" } : Jvm.MethodName) jdk_42_method_149_code (6 : Nat) (Option.none : Option Jvm.ClassFile.FieldType), Jvm.Cond.code ({ cls := "java/lang/Object", name := "<init>", desc := "()V" } : Jvm.MethodName) object_method_1_code (1 : Nat) (Option.none : Option Jvm.ClassFile.FieldType), Jvm.Cond.code ({ cls := "com/example/cores_from_twigs/coresfromtwigs/constraints/ConstraintEqualsPinLaw", name := "ch", desc := "(II)C" } : Jvm.MethodName) method_3_code (2 : Nat) (Option.some Jvm.ClassFile.FieldType.char), Jvm.Cond.code ({ cls := "java/lang/StringUTF16", name := "compress", desc := "([CII)[B" } : Jvm.MethodName) jdk_52_method_16_code (6 : Nat) (Option.some (Jvm.ClassFile.FieldType.array Jvm.ClassFile.FieldType.byte)), Jvm.Cond.code ({ cls := "java/lang/StringUTF16", name := "compress", desc := "([CI[BII)I" } : Jvm.MethodName) jdk_52_method_21_code (7 : Nat) (Option.some Jvm.ClassFile.FieldType.int), Jvm.Cond.code ({ cls := "java/lang/StringUTF16", name := "coderFromArrayLen", desc := "([BI)B" } : Jvm.MethodName) jdk_52_method_15_code (2 : Nat) (Option.some Jvm.ClassFile.FieldType.byte), Jvm.Cond.code ({ cls := "com/example/cores_from_twigs/coresfromtwigs/constraints/ConstraintEqualsPinLaw", name := "rel", desc := "(I)Lcom/example/cores_from_twigs/coresfromtwigs/constraints/Relation;" } : Jvm.MethodName) method_6_code (1 : Nat) (Option.some (Jvm.ClassFile.FieldType.object "com/example/cores_from_twigs/coresfromtwigs/constraints/Relation")), Jvm.Cond.code ({ cls := "com/example/cores_from_twigs/coresfromtwigs/constraints/Constraint", name := "<init>", desc := "(Ljava/lang/String;Lcom/example/cores_from_twigs/coresfromtwigs/constraints/Relation;Ljava/lang/String;)V" } : Jvm.MethodName) prog_6_method_1_code (4 : Nat) (Option.none : Option Jvm.ClassFile.FieldType), Jvm.Cond.code ({ cls := "java/util/Objects", name := "requireNonNull", desc := "(Ljava/lang/Object;Ljava/lang/String;)Ljava/lang/Object;" } : Jvm.MethodName) jdk_31_method_11_code (2 : Nat) (Option.some (Jvm.ClassFile.FieldType.object "java/lang/Object")), Jvm.Cond.code ({ cls := "com/example/cores_from_twigs/coresfromtwigs/constraints/ConstraintEqualsPinLaw", name := "same", desc := "(II)Z" } : Jvm.MethodName) method_5_code (3 : Nat) (Option.some Jvm.ClassFile.FieldType.boolean), Jvm.Cond.code ({ cls := "com/example/cores_from_twigs/coresfromtwigs/constraints/Constraint", name := "equals", desc := "(Ljava/lang/Object;)Z" } : Jvm.MethodName) prog_6_method_6_code (3 : Nat) (Option.some Jvm.ClassFile.FieldType.boolean), Jvm.Cond.code ({ cls := "java/lang/String", name := "equals", desc := "(Ljava/lang/Object;)Z" } : Jvm.MethodName) jdk_42_method_66_code (3 : Nat) (Option.some Jvm.ClassFile.FieldType.boolean), Jvm.Cond.code ({ cls := "java/lang/StringLatin1", name := "equals", desc := "([B[B)Z" } : Jvm.MethodName) jdk_43_method_13_code (3 : Nat) (Option.some Jvm.ClassFile.FieldType.boolean)]
set_option maxRecDepth 65536 in
theorem codes_eq : words1.filter isCode = codes1 := rfl
theorem w_codes : ∀ c ∈ words1.filter isCode, c.before args0 about1 = true := by
  rw [codes_eq]
  intro c hc
  simp only [codes1, List.mem_cons, List.not_mem_nil, or_false] at hc
  rcases hc with rfl | rfl | rfl | rfl | rfl | rfl | rfl | rfl | rfl | rfl | rfl | rfl | rfl | rfl | rfl | rfl
  · exact w_c0
  · exact w_c1
  · exact w_c2
  · exact w_c3
  · exact w_c4
  · exact w_c5
  · exact w_c6
  · exact w_c7
  · exact w_c8
  · exact w_c9
  · exact w_c10
  · exact w_c11
  · exact w_c12
  · exact w_c13
  · exact w_c14
  · exact w_c15
set_option maxRecDepth 65536 in
theorem w_t1 : (words1.take 24).all (fun c => isCode c || c.before args0 about1) = true := by decide +kernel
set_option maxRecDepth 65536 in
theorem w_t2 : ((words1.drop 24).take 24).all (fun c => isCode c || c.before args0 about1) = true := by decide +kernel
set_option maxRecDepth 65536 in
theorem w_t3 : (((words1.drop 24).drop 24).take 24).all (fun c => isCode c || c.before args0 about1) = true := by decide +kernel
set_option maxRecDepth 65536 in
theorem w_t4 : ((((words1.drop 24).drop 24).drop 24).take 24).all (fun c => isCode c || c.before args0 about1) = true := by decide +kernel
set_option maxRecDepth 65536 in
theorem w_t5 : ((((words1.drop 24).drop 24).drop 24).drop 24).all (fun c => isCode c || c.before args0 about1) = true := by decide +kernel
theorem w_tables : (allAtoms (Jvm.Cond.code x code maxLocals ret :: tables_1)).before args0 about1 = true := by
  rw [allAtoms_all]
  show words1.all (fun c => c.before args0 about1) = true
  refine all_split ?_ w_codes
  rw [← List.take_append_drop 24 words1, List.all_append, w_t1, ← List.take_append_drop 24 (words1.drop 24), List.all_append, w_t2, ← List.take_append_drop 24 ((words1.drop 24).drop 24), List.all_append, w_t3, ← List.take_append_drop 24 (((words1.drop 24).drop 24).drop 24), List.all_append, w_t4, w_t5]
  rfl
set_option maxRecDepth 65536 in
theorem w_rest : rest_1_c.before args0 about1 = true := by decide +kernel
set_option maxRecDepth 65536 in
theorem w_case : (Jvm.Cond.and given_1 narrow_1).before args0 about1 = true := by decide +kernel
set_option maxRecDepth 65536 in
theorem w_consts : constsHeld consts_1 about1 := Jvm.Lit.constsHeldB_iff.mp (by decide +kernel)
theorem w_applies : (headSpec (Jvm.Cond.code x code maxLocals ret :: tables_1) room_1).applies x e0.platform about1 = true :=
  (Spec.applies_iff w_frames).mpr ⟨w_running, w_runnable, w_alone, w_named, w_hears, w_ripe, w_room, w_tables⟩
theorem atStart : AtStart classFile x code maxLocals ret World_1 tables_1 room_1 Calls_1 rest_1 Pre_1 launch0 p0 e0 about1 theMethod args0 below0 :=
  ⟨lists_1, trivial, launch0.admits_env _ _ _, launch0.least_env, fairChoices_fair.cas, fairChoices_fair.clock, w_frames, w_args, w_heap, w_applies, ⟨w_consts, trivial⟩, w_rest, w_case⟩
end start1
theorem witness_1 : WitnessClaimed_1 := ⟨start1.p0, start1.e0, start1.about1, start1.theMethod, start1.args0, start1.below0, start1.atStart⟩
end Jvm.Pilot.@@N@@
