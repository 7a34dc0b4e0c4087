import JvmDerived
import JvmDerived.Pilot.@@N@@Statement
import JvmDerived.Pilot.@@N@@Code
set_option linter.unusedVariables false
set_option linter.unusedSimpArgs false
namespace Jvm.RoadKit
open Sem ClassFile Op Lib Jvm.Stand Jvm.Free Jvm.LawKit
section New
variable {p : Program} {l : Launch} {e : Env} {R : Room} {s : State} {m : MethodId} {args : Array Value} {below : List Frame} {meth : Method} {c : Code} {T : State} {locs : List Loc} {cells slots : Nat}
theorem retI (X : Stand p l e R s m args below meth c T locs cells slots) (hx : p.tables.exec = Jvm.exec) {pc : Nat} {Ls : Array Slot} {z : Int32} {rest : List Value} (hret : meth.sig.returnType = some .int) (hd : decode c.code pc = .ok (.ireturn, 1)) {fs : List Frame}
    (hl : ∀ (f : JFrame) (acts : List Action), f.method = m → f.locked = none → f.entered = [] → (doReturn e (T.setTop f) acts (some (.int z))).1 = T.setFrames fs) : Steps p.tables e below (T.setTop (mkF m pc Ls (.int z :: rest))) (T.setFrames fs) := by
  have hm' : T.vm.method? m = some meth := X.method'
  have hn : narrow .int (.int z) = .int z := rfl
  show Steps p.tables e below (T.setTop { method := m, pc := pc, locals := Ls, stack := _ :: rest, locked := none }) _
  jvm_step X.here [X.here.top, hx, hd, hm', hret, hn]
  first | (intro acts; rw [hl _ acts rfl rfl rfl]) | rw [hl _ _ rfl rfl rfl]
  exact Steps.refl _
theorem own_retA (X : Stand p l e R s m args below meth c T locs cells slots) (hx : p.tables.exec = Jvm.exec) {pc : Nat} {Ls : Array Slot} {v : Value} {t : FieldType} {rest : List Value} (hv : v.isRef = true) (hret : meth.sig.returnType = some t) (ht : t.isReference = true) (hd : decode c.code pc = .ok (.areturn, 1)) {fs : List Frame}
    (hl : ∀ (f : JFrame) (acts : List Action), f.method = m → f.locked = none → f.entered = [] → (doReturn e (T.setTop f) acts (some v)).1 = T.setFrames fs) : Steps p.tables e below (T.setTop (mkF m pc Ls (v :: rest))) (T.setFrames fs) := by
  have hm' : T.vm.method? m = some meth := X.method'
  show Steps p.tables e below (T.setTop { method := m, pc := pc, locals := Ls, stack := _ :: rest, locked := none }) _
  jvm_step X.here [X.here.top, hx, hd, hm', hret, hv, ht]
  first | (intro acts; rw [hl _ acts rfl rfl rfl]) | rw [hl _ _ rfl rfl rfl]
  exact Steps.refl _
theorem own_go {tb : Tables} {e : Env} {below : List Frame} {A B : State} {P : State → Outcome → Prop} (k : ∀ t, Steps tb e below B t → Steps tb e below A t) (h : ∃ s₂ o, Steps tb e below B s₂ ∧ P s₂ o) : ∃ s₂ o, Steps tb e below A s₂ ∧ P s₂ o := by
  obtain ⟨t, o, h1, h2⟩ := h
  exact ⟨t, o, k t h1, h2⟩
theorem own_abs {tb : Tables} {e : Env} {below : List Frame} {A : State} {P0 : State → Outcome → Prop} (h : ∀ P : State → Outcome → Prop, (∀ s₂ o, P0 s₂ o → P s₂ o) → ∃ s₂ o, Steps tb e below A s₂ ∧ P s₂ o) : ∃ s₂ o, Steps tb e below A s₂ ∧ P0 s₂ o := h P0 fun _ _ q => q
theorem own_oldsz {Z : State} {n0 : Nat} {h : Heap} (O : Old Z n0 h) : n0 ≤ h.size := O.1 ▸ O.2.1
theorem own_b255 (x : Int32) : ¬ (x &&& (255 : Int32)) < 0 ∧ ¬ (255 : Int32) < (x &&& (255 : Int32)) := by
  have h := c_and x 255 (by decide)
  have e : (255 : Int32).toInt = 255 := rfl
  have e0 : (0 : Int32).toInt = 0 := rfl
  rw [Int32.lt_iff_toInt_lt, Int32.lt_iff_toInt_lt]
  omega
theorem own_nc2 (x : Int32) : nar .char (x.toUInt32.toUInt16.toUInt32.toInt32) = x.toUInt32.toUInt16.toUInt32.toInt32 := by
  show (((x.toUInt32.toUInt16.toUInt32).toInt32).toUInt32).toUInt16.toUInt32.toInt32 = _
  rw [UInt32.toUInt32_toInt32, UInt16.toUInt16_toUInt32]
theorem own_nb2 (x : Int32) : x.toInt8.toInt32.toInt8.toInt32 = x.toInt8.toInt32 := by simp
/-- a String's bytes, of its chars -/
abbrev own_bs (cs : List Int32) : List Value := (cs.map fun c => c.toInt8.toInt32).map Value.int
theorem own_narR {v : Value} {t : FieldType} (hv : v.isRef = true) : narrow t v = v := by cases v <;> simp [Value.isRef] at hv <;> cases t <;> rfl
theorem own_fitR {v : Value} {s : String} (hv : v.isRef = true) : fits (.object s) v = true := by cases v <;> simp [Value.isRef] at hv <;> rfl
end New
end Jvm.RoadKit
/- laws to paste: Road.backV (cut by pick.py; bodies as the Statement names them) -/
namespace Jvm.Pilot.@@N@@
namespace StrChars
open Jvm Sem ClassFile Op Lib Jvm.Stand Jvm.Free.XT Jvm.Free.ALB Jvm.Free.JM Jvm.Free
open Jvm.Lib.Cold (StaticIs)
/-- a char array whose places are chars -/
def Ch (a : Addr) (A : Cell) (U : State) : Prop := Arr .char a A U ∧ Typed .char A
theorem Ch.mv {a : Addr} {A : Cell} {U U' : State} (h : Ch a A U) (hal : U.vm.Alike U'.vm) (hh : U'.heap = U.heap) : Ch a A U' := ⟨h.1.mv hal hh, h.2⟩
theorem Ch.keep {a : Addr} {A : Cell} {U U' : State} (h : Ch a A U) (hal : U.vm.Alike U'.vm) (hk : U'.heap[a]? = some A) : Ch a A U' := ⟨h.1.keep hal hk, h.2⟩
/-- what place i of a char[]'s cell holds -/
def cv (A : Cell) (i : Nat) : Int32 := match A.slots[i]? with | some (.int x) => x | _ => 0
theorem Ch.get {a : Addr} {A : Cell} {U : State} (h : Ch a A U) {i : Nat} (hi : i < A.slots.size) : A.slots[i]? = some (.int (cv A i)) := by
  have e := Array.getElem?_eq_getElem hi
  have f := h.2 i _ e
  unfold cv; rw [e]
  generalize A.slots[i] = v at f
  cases v <;> simp [fits] at f ⊢
/-- the byte that i2b leaves of a char -/
def lo8 (x : Int32) : Int32 := x.toInt8.toInt32
theorem fits_lo8 (y : Int32) : fits .byte (.int (lo8 y)) = true := by
  have h1 := y.toInt8.le_toInt
  have h2 := y.toInt8.toInt_lt
  simp only [lo8, fits, Bool.and_eq_true, decide_eq_true_eq, Int32.le_iff_toInt_le, Int8.toInt_toInt32, show (-128 : Int32).toInt = -128 from by decide, show (127 : Int32).toInt = 127 from by decide]
  omega
/-- A' is A but that each place j of lo .. hi - 1 holds f j -/
def Laid (A A' : Cell) (lo hi : Nat) (f : Nat → Value) : Prop := A'.cls = A.cls ∧ A'.vm = A.vm ∧ A'.slots.size = A.slots.size ∧ ∀ i, A'.slots[i]? = if lo ≤ i ∧ i < hi then some (f i) else A.slots[i]?
theorem Laid.zero (A : Cell) (lo : Nat) (f : Nat → Value) : Laid A A lo (lo + 0) f := ⟨rfl, rfl, rfl, fun i => by rw [if_neg (by omega)]⟩
theorem Laid.step {A Ak : Cell} {lo k : Nat} {f : Nat → Value} {v : Value} (h : Laid A Ak lo k f) (hlo : lo ≤ k) (hk : k < Ak.slots.size) (hv : v = f k) : Laid A (Ak.setSlot k v) lo (k + 1) f := by
  refine ⟨h.1, h.2.1, by simpa [Cell.setSlot] using h.2.2.1, fun i => ?_⟩
  by_cases e : k = i
  · subst e; rw [Cell.slots_setSlot_self v hk, if_pos (by omega), hv]
  · rw [Cell.slots_setSlot_ne v e, h.2.2.2 i]
    by_cases q : lo ≤ i ∧ i < k
    · rw [if_pos q, if_pos (by omega)]
    · rw [if_neg q, if_neg (by omega)]
def U16 : String := "java/lang/StringUTF16"
namespace Cmp5
def yN : MethodName := ⟨"java/lang/StringUTF16", "compress", "([CI[BII)I"⟩
abbrev yB : ByteArray := jdk_52_method_21_code
theorem d0 : decode yB 0 = .ok (.iconst 0, 1) := by decide +kernel
theorem d1 : decode yB 1 = .ok (.istore 5, 2) := by decide +kernel
theorem d3 : decode yB 3 = .ok (.iload 5, 2) := by decide +kernel
theorem d5 : decode yB 5 = .ok (.iload 4, 2) := by decide +kernel
theorem d7 : decode yB 7 = .ok (.if_icmp (.ge) 37, 3) := by decide +kernel
theorem d10 : decode yB 10 = .ok (.aload_n 0, 1) := by decide +kernel
theorem d11 : decode yB 11 = .ok (.iload_n 1, 1) := by decide +kernel
theorem d12 : decode yB 12 = .ok (.caload, 1) := by decide +kernel
theorem d13 : decode yB 13 = .ok (.istore 6, 2) := by decide +kernel
theorem d15 : decode yB 15 = .ok (.iload 6, 2) := by decide +kernel
theorem d17 : decode yB 17 = .ok (.sipush 255, 3) := by decide +kernel
theorem d20 : decode yB 20 = .ok (.if_icmp (.le) 6, 3) := by decide +kernel
theorem d26 : decode yB 26 = .ok (.aload_n 2, 1) := by decide +kernel
theorem d27 : decode yB 27 = .ok (.iload_n 3, 1) := by decide +kernel
theorem d28 : decode yB 28 = .ok (.iload 6, 2) := by decide +kernel
theorem d30 : decode yB 30 = .ok (.i2b, 1) := by decide +kernel
theorem d31 : decode yB 31 = .ok (.bastore, 1) := by decide +kernel
theorem d32 : decode yB 32 = .ok (.iinc 1 1, 3) := by decide +kernel
theorem d35 : decode yB 35 = .ok (.iinc 3 1, 3) := by decide +kernel
theorem d38 : decode yB 38 = .ok (.iinc 5 1, 3) := by decide +kernel
theorem d41 : decode yB 41 = .ok (.goto (-38), 3) := by decide +kernel
theorem d44 : decode yB 44 = .ok (.iload 4, 2) := by decide +kernel
theorem d46 : decode yB 46 = .ok (.ireturn, 1) := by decide +kernel
def site : List Cond := []
def tab : Cond := tabOf yN yB 7 (some .int) site
def P (b : Addr) (A : Cell) (d : Addr) (B : Cell) (o q len : Nat) (args : Array Value) (s : State) : Prop := args = #[.ref b, .int (Int32.ofNat o), .ref d, .int (Int32.ofNat q), .int (Int32.ofNat len)] ∧ Ch b A s ∧ Arr .byte d B s ∧ b ≠ d ∧ o + len ≤ A.slots.size ∧ q + len ≤ B.slots.size ∧ ∀ i, i < len → ¬ 255 < cv A (o + i)
def E (b : Addr) (A : Cell) (d : Addr) (B : Cell) (o q len : Nat) (r : Option Value) (s u : State) : Prop := r = some (.int (Int32.ofNat len)) ∧ ∃ B', Put d B' s u ∧ Laid B B' q (q + len) (fun j => Value.int (lo8 (cv A (o + (j - q)))))
/-- no char of the range above 255: len; the places written hold each char's low byte -/
theorem law (l : Launch) (b : Addr) (A : Cell) (d : Addr) (B : Cell) (o q len : Nat) : Law l yN 5 5 0 0 yB 7 (some .int) site (P b A d B o q len) (E b A d B o q len) (copyLocs d q len) 0 0 := by
  refine Law.of_walk (plainFor_of_name (by decide +kernel)) (by decide +kernel) (by decide +kernel) (by decide) (fun _ _ h => by rw [h.1]; rfl) (fun _ U U' hal hh h => ⟨h.1, h.2.1.mv hal hh, h.2.2.1.mv hal hh, h.2.2.2⟩) (fun r U U' V V' h1 hal h2 h => ⟨h.1, h.2.elim fun B' q => ⟨B', q.1.mv h1 h2, q.2⟩⟩) ?_
  intro p e s m args below meth c s₁ X0 hexec hbytes hml hret hlk hnm hown hh0 W hP
  obtain ⟨rfl, hA, hB, hne, l1, l2, hp⟩ := hP
  have c1 : Steps p.tables e below (s₁.setTop (entryFrame m #[.ref b, .int (Int32.ofNat o), .ref d, .int (Int32.ofNat q), .int (Int32.ofNat len)] 7)) (s₁.setTop (mkF m 0 #[.val (.ref b), .val (.int (Int32.ofNat o)), .val (.ref d), .val (.int (Int32.ofNat q)), .val (.int (Int32.ofNat len)), .unset, .unset] [])) := entry rfl
  have hA0 := hA.1.mv X0.warmed.alike hh0
  have hB0 := hB.mv X0.warmed.alike hh0
  have a31 := hA.1.2.2.2
  have c2 : Steps p.tables e below (s₁.setTop (entryFrame m #[.ref b, .int (Int32.ofNat o), .ref d, .int (Int32.ofNat q), .int (Int32.ofNat len)] 7)) (s₁.setTop (mkF m 3 #[.val (.ref b), .val (.int (Int32.ofNat o)), .val (.ref d), .val (.int (Int32.ofNat q)), .val (.int (Int32.ofNat len)), .val (.int 0), .unset] [])) := c1.trans (by
    refine iconstV X0.here hexec rfl 0 (hb hbytes d0) (by decide) ?_
    refine XS.istore X0.here hexec rfl (hb hbytes d1) rfl rfl ?_
    exact Steps.refl _)
  have loop : ∀ (r i : Nat), i + r = len → ∀ (z : Slot), (z = .unset ∨ ∃ w, z = .val w ∧ w.category = 1) → ∀ (Tl : State) (Bk : Cell), Stand p l e { frames := 0, locals := 0, cells := 0, slots := 0 } s m #[.ref b, .int (Int32.ofNat o), .ref d, .int (Int32.ofNat q), .int (Int32.ofNat len)] below meth c Tl ([] ++ copyLocs d q i) 0 0 → Put d Bk s₁ Tl → Laid B Bk q (q + i) (fun j => Value.int (lo8 (cv A (o + (j - q))))) →
      Steps p.tables e below (s₁.setTop (entryFrame m #[.ref b, .int (Int32.ofNat o), .ref d, .int (Int32.ofNat q), .int (Int32.ofNat len)] 7)) (Tl.setTop (mkF m 3 #[.val (.ref b), .val (.int (Int32.ofNat (o + i))), .val (.ref d), .val (.int (Int32.ofNat (q + i))), .val (.int (Int32.ofNat len)), .val (.int (Int32.ofNat i)), z] [])) → ∃ (T' : State) (B' : Cell) (z' : Slot), Stand p l e { frames := 0, locals := 0, cells := 0, slots := 0 } s m #[.ref b, .int (Int32.ofNat o), .ref d, .int (Int32.ofNat q), .int (Int32.ofNat len)] below meth c T' ([] ++ copyLocs d q len) 0 0 ∧ Put d B' s₁ T' ∧ Laid B B' q (q + len) (fun j => Value.int (lo8 (cv A (o + (j - q))))) ∧
      Steps p.tables e below (s₁.setTop (entryFrame m #[.ref b, .int (Int32.ofNat o), .ref d, .int (Int32.ofNat q), .int (Int32.ofNat len)] 7)) (T'.setTop (mkF m 3 #[.val (.ref b), .val (.int (Int32.ofNat (o + len))), .val (.ref d), .val (.int (Int32.ofNat (q + len))), .val (.int (Int32.ofNat len)), .val (.int (Int32.ofNat len)), z'] [])) := by
    intro r
    induction r with
    | zero =>
      intro i hi z hz Tl Bk Xl pl fl cl
      have hil : i = len := by omega
      rw [hil] at Xl fl cl
      exact ⟨Tl, Bk, z, Xl, pl, fl, cl⟩
    | succ r ih =>
      intro i hi z hz Tl Bk Xl pl fl cl
      have all := X0.warmed.alike.symm.trans Xl.warmed.alike
      have hAl := hA0.keep all (pl.other hne hA0.1)
      have hBk := hB0.like all pl.1 fl.1 fl.2.1 fl.2.2.1
      have hlt : q + i < Bk.slots.size := by rw [fl.2.2.1]; omega
      have c3 : Steps p.tables e below (s₁.setTop (entryFrame m #[.ref b, .int (Int32.ofNat o), .ref d, .int (Int32.ofNat q), .int (Int32.ofNat len)] 7)) (Tl.setTop (mkF m 12 #[.val (.ref b), .val (.int (Int32.ofNat (o + i))), .val (.ref d), .val (.int (Int32.ofNat (q + i))), .val (.int (Int32.ofNat len)), .val (.int (Int32.ofNat i)), z] [.int (Int32.ofNat (o + i)), .ref b])) := cl.trans (by
        refine XS.iload Xl.here hexec rfl (hb hbytes d3) rfl ?_
        refine XS.iload Xl.here hexec rfl (hb hbytes d5) rfl ?_
        refine XS.icmpNo Xl.here hexec rfl (hb hbytes d7) rfl (ii_ge_f (lt32 (by omega) (by omega))) ?_
        refine XS.aloadN Xl.here hexec rfl (hb hbytes d10) rfl rfl ?_
        refine XS.iloadN Xl.here hexec rfl (hb hbytes d11) rfl ?_
        exact Steps.refl _)
      have c4 : Steps p.tables e below (s₁.setTop (entryFrame m #[.ref b, .int (Int32.ofNat o), .ref d, .int (Int32.ofNat q), .int (Int32.ofNat len)] 7)) (Tl.setTop (mkF m 13 #[.val (.ref b), .val (.int (Int32.ofNat (o + i))), .val (.ref d), .val (.int (Int32.ofNat (q + i))), .val (.int (Int32.ofNat len)), .val (.int (Int32.ofNat i)), z] [.int (cv A (o + i))])) := c3.trans (by
        refine Xl.aget hexec hAl rfl (hA.get (i := o + i) (by omega)) rfl rfl (hb hbytes d12) ?_
        exact Steps.refl _)
      have c5 : Steps p.tables e below (s₁.setTop (entryFrame m #[.ref b, .int (Int32.ofNat o), .ref d, .int (Int32.ofNat q), .int (Int32.ofNat len)] 7)) (Tl.setTop (mkF m 15 #[.val (.ref b), .val (.int (Int32.ofNat (o + i))), .val (.ref d), .val (.int (Int32.ofNat (q + i))), .val (.int (Int32.ofNat len)), .val (.int (Int32.ofNat i)), .val (.int (cv A (o + i)))] [])) := c4.trans (by
        refine XS.istoreS Xl.here hexec rfl (hb hbytes d13) rfl rfl hz ?_
        exact Steps.refl _)
      have c6 : Steps p.tables e below (s₁.setTop (entryFrame m #[.ref b, .int (Int32.ofNat o), .ref d, .int (Int32.ofNat q), .int (Int32.ofNat len)] 7)) (Tl.setTop (mkF m 31 #[.val (.ref b), .val (.int (Int32.ofNat (o + i))), .val (.ref d), .val (.int (Int32.ofNat (q + i))), .val (.int (Int32.ofNat len)), .val (.int (Int32.ofNat i)), .val (.int (cv A (o + i)))] [.int (lo8 (cv A (o + i))), .int (Int32.ofNat (q + i)), .ref d])) := c5.trans (by
        refine XS.iload Xl.here hexec rfl (hb hbytes d15) rfl ?_
        refine sipushV Xl.here hexec rfl 255 (hb hbytes d17) (by decide) ?_
        refine XS.icmpYes Xl.here hexec rfl (pc0 := 20) rfl (hb hbytes d20) rfl (ii_le_t (hp i (by omega))) (by decide) rfl ?_
        refine XS.aloadN Xl.here hexec rfl (hb hbytes d26) rfl rfl ?_
        refine XS.iloadN Xl.here hexec rfl (hb hbytes d27) rfl ?_
        refine XS.iload Xl.here hexec rfl (hb hbytes d28) rfl ?_
        refine i2b Xl.here hexec rfl (hb hbytes d30) rfl ?_
        exact Steps.refl _)
      obtain ⟨T7, X7, p7, st7⟩ := Xl.aput hexec hBk rfl hlt rfl (fits_lo8 (cv A (o + i))) (g := (mkF m 31 #[.val (.ref b), .val (.int (Int32.ofNat (o + i))), .val (.ref d), .val (.int (Int32.ofNat (q + i))), .val (.int (Int32.ofNat len)), .val (.int (Int32.ofNat i)), .val (.int (cv A (o + i)))] [.int (lo8 (cv A (o + i))), .int (Int32.ofNat (q + i)), .ref d])) rfl (rest := []) rfl (hb hbytes d31)
      have c8 : Steps p.tables e below (s₁.setTop (entryFrame m #[.ref b, .int (Int32.ofNat o), .ref d, .int (Int32.ofNat q), .int (Int32.ofNat len)] 7)) (T7.setTop (mkF m 32 #[.val (.ref b), .val (.int (Int32.ofNat (o + i))), .val (.ref d), .val (.int (Int32.ofNat (q + i))), .val (.int (Int32.ofNat len)), .val (.int (Int32.ofNat i)), .val (.int (cv A (o + i)))] [])) := c6.trans (st7 _ (Steps.refl _))
      have c9 : Steps p.tables e below (s₁.setTop (entryFrame m #[.ref b, .int (Int32.ofNat o), .ref d, .int (Int32.ofNat q), .int (Int32.ofNat len)] 7)) (T7.setTop (mkF m 3 #[.val (.ref b), .val (.int (Int32.ofNat (o + i) + 1)), .val (.ref d), .val (.int (Int32.ofNat (q + i) + 1)), .val (.int (Int32.ofNat len)), .val (.int (Int32.ofNat i + 1)), .val (.int (cv A (o + i)))] [])) := c8.trans (by
        refine iincV X7.here hexec rfl 1 (hb hbytes d32) (by decide) rfl rfl ?_
        refine iincV X7.here hexec rfl 1 (hb hbytes d35) (by decide) rfl rfl ?_
        refine iincV X7.here hexec rfl 1 (hb hbytes d38) (by decide) rfl rfl ?_
        refine XS.goto X7.here hexec rfl (pc0 := 41) rfl (hb hbytes d41) (by decide) rfl ?_
        exact Steps.refl _)
      have c10 : Steps p.tables e below (s₁.setTop (entryFrame m #[.ref b, .int (Int32.ofNat o), .ref d, .int (Int32.ofNat q), .int (Int32.ofNat len)] 7)) (T7.setTop (mkF m 3 #[.val (.ref b), .val (.int (Int32.ofNat (o + (i + 1)))), .val (.ref d), .val (.int (Int32.ofNat (q + (i + 1)))), .val (.int (Int32.ofNat len)), .val (.int (Int32.ofNat (i + 1))), .val (.int (cv A (o + i)))] [])) := by
        have := c9
        rw [succ32, succ32, succ32] at this
        exact this
      exact ih (i + 1) (by omega) _ (Or.inr ⟨_, rfl, rfl⟩) T7 _ (by rw [copyLocs_step, ← List.append_assoc]; exact X7) (pl.trans p7) (fl.step (by omega) hlt (by simp)) c10
  obtain ⟨T9, B9, z9, X9, p9, f9, g9⟩ := loop len 0 (by omega) .unset (Or.inl rfl) s₁ B (by simpa [copyLocs] using X0) ⟨hB0.1, fun _ _ => rfl, rfl⟩ (Laid.zero _ _ _) c2
  have c11 : Steps p.tables e below (s₁.setTop (entryFrame m #[.ref b, .int (Int32.ofNat o), .ref d, .int (Int32.ofNat q), .int (Int32.ofNat len)] 7)) (T9.setTop (mkF m 46 #[.val (.ref b), .val (.int (Int32.ofNat (o + len))), .val (.ref d), .val (.int (Int32.ofNat (q + len))), .val (.int (Int32.ofNat len)), .val (.int (Int32.ofNat len)), z9] [.int (Int32.ofNat len)])) := g9.trans (by
    refine XS.iload X9.here hexec rfl (hb hbytes d3) rfl ?_
    refine XS.iload X9.here hexec rfl (hb hbytes d5) rfl ?_
    refine XS.icmpYes X9.here hexec rfl (pc0 := 7) rfl (hb hbytes d7) rfl (ii_ge_t (nlt32 (by omega) (Nat.le_refl _))) (by decide) rfl ?_
    refine XS.iload X9.here hexec rfl (hb hbytes d44) rfl ?_
    exact Steps.refl _)
  exact ⟨T9, some (.int (Int32.ofNat len)), _, _, _, X9, by simp, rfl, rfl, (fun h => by cases h), ⟨rfl, B9, p9.from hh0, f9⟩, fun fs hl => c11.trans (X9.ireturnOut hexec hret rfl (Or.inl rfl) (hb hbytes d46) hl)⟩
end Cmp5
namespace Cmp3
def yN : MethodName := ⟨"java/lang/StringUTF16", "compress", "([CII)[B"⟩
abbrev yB : ByteArray := jdk_52_method_16_code
theorem d0 : decode yB 0 = .ok (.iload_n 2, 1) := by decide +kernel
theorem d1 : decode yB 1 = .ok (.newarray .byte, 2) := by decide +kernel
theorem d3 : decode yB 3 = .ok (.astore_n 3, 1) := by decide +kernel
theorem d4 : decode yB 4 = .ok (.aload_n 0, 1) := by decide +kernel
theorem d5 : decode yB 5 = .ok (.iload_n 1, 1) := by decide +kernel
theorem d6 : decode yB 6 = .ok (.aload_n 3, 1) := by decide +kernel
theorem d7 : decode yB 7 = .ok (.iconst 0, 1) := by decide +kernel
theorem d8 : decode yB 8 = .ok (.iload_n 2, 1) := by decide +kernel
theorem d9 : decode yB 9 = .ok (.invokestatic 115, 3) := by decide +kernel
theorem d12 : decode yB 12 = .ok (.istore 4, 2) := by decide +kernel
theorem d14 : decode yB 14 = .ok (.iload 4, 2) := by decide +kernel
theorem d16 : decode yB 16 = .ok (.iload_n 2, 1) := by decide +kernel
theorem d17 : decode yB 17 = .ok (.if_icmp (.eq) 40, 3) := by decide +kernel
theorem d57 : decode yB 57 = .ok (.aload_n 3, 1) := by decide +kernel
theorem d58 : decode yB 58 = .ok (.areturn, 1) := by decide +kernel
def site : List Cond := [.arrayClass .byte, Cmp5.tab] ++ staticW U16 115 Cmp5.yN
def tab : Cond := tabOf yN yB 6 (some (.array .byte)) site
def P (b : Addr) (A : Cell) (o len : Nat) (args : Array Value) (s : State) : Prop := args = #[.ref b, .int (Int32.ofNat o), .int (Int32.ofNat len)] ∧ Ch b A s ∧ o + len ≤ A.slots.size ∧ len ≤ 536870912 ∧ ∀ i, i < len → ¬ 255 < cv A (o + i)
def E (b : Addr) (A : Cell) (o len : Nat) (r : Option Value) (s u : State) : Prop := NewArr .byte "[B" len (fun j => .int (lo8 (cv A (o + j)))) r s u ∧ u.heap.size = s.heap.size + 1
/-- no char of the range above 255: a new byte[] of their low bytes -/
theorem law (l : Launch) (b : Addr) (A : Cell) (o len : Nat) : Law l yN 3 3 1 18 yB 6 (some (.array .byte)) site (P b A o len) (E b A o len) [] 1 len := by
  refine Law.of_walk (plainFor_of_name (by decide +kernel)) (by decide +kernel) (by decide +kernel) (by decide) (fun _ _ h => by rw [h.1]; rfl) (fun _ U U' hal hh h => ⟨h.1, h.2.1.mv hal hh, h.2.2⟩) (fun r U U' V V' h1 hal h2 h => ⟨NewArr.mv r U U' V V' h1 hal h2 h.1, by rw [h1, h2]; exact h.2⟩) ?_
  intro p e s m args below meth c s₁ X0 hexec hbytes hml hret hlk hnm hown hh0 W hP
  obtain ⟨rfl, hA, l1, l2, hp⟩ := hP
  have a31 := hA.1.2.2.2
  have c1 : Steps p.tables e below (s₁.setTop (entryFrame m #[.ref b, .int (Int32.ofNat o), .int (Int32.ofNat len)] 6)) (s₁.setTop (mkF m 0 #[.val (.ref b), .val (.int (Int32.ofNat o)), .val (.int (Int32.ofNat len)), .unset, .unset, .unset] [])) := entry rfl
  have c2 : Steps p.tables e below (s₁.setTop (entryFrame m #[.ref b, .int (Int32.ofNat o), .int (Int32.ofNat len)] 6)) (s₁.setTop (mkF m 1 #[.val (.ref b), .val (.int (Int32.ofNat o)), .val (.int (Int32.ofNat len)), .unset, .unset, .unset] [.int (Int32.ofNat len)])) := c1.trans (by
    refine XS.iloadN X0.here hexec rfl (hb hbytes d0) rfl ?_
    exact Steps.refl _)
  obtain ⟨T3, B3, X3, ba3, bs3, bv3, bh3, bf3, st3⟩ := X0.anew hexec (atype := .byte) (wk W (.arrayClass .byte)) rfl (by show len * 1 ≤ _; omega) (by omega) (g := (mkF m 1 #[.val (.ref b), .val (.int (Int32.ofNat o)), .val (.int (Int32.ofNat len)), .unset, .unset, .unset] [.int (Int32.ofNat len)])) rfl (hb hbytes d1) (rest := []) rfl (Nat.le_refl _) (by show 0 + len ≤ len; omega)
  rw [hh0] at ba3 st3
  have kp3 : XT.Kept s T3 := (XT.Kept.of_eq hh0).push bh3
  have hA3 := hA.keep X3.warmed.alike (kp3 _ _ hA.1.1)
  have hne : b ≠ s.heap.size := hA.1.ne
  have c4 : Steps p.tables e below (s₁.setTop (entryFrame m #[.ref b, .int (Int32.ofNat o), .int (Int32.ofNat len)] 6)) (T3.setTop (mkF m 3 #[.val (.ref b), .val (.int (Int32.ofNat o)), .val (.int (Int32.ofNat len)), .unset, .unset, .unset] [.ref s.heap.size])) := c2.trans (st3 _ (Steps.refl _))
  have c5 : Steps p.tables e below (s₁.setTop (entryFrame m #[.ref b, .int (Int32.ofNat o), .int (Int32.ofNat len)] 6)) (T3.setTop (mkF m 9 #[.val (.ref b), .val (.int (Int32.ofNat o)), .val (.int (Int32.ofNat len)), .val (.ref s.heap.size), .unset, .unset] [.int (Int32.ofNat len), .int 0, .ref s.heap.size, .int (Int32.ofNat o), .ref b])) := c4.trans (by
    refine XS.astoreN X3.here hexec rfl (hb hbytes d3) rfl rfl rfl ?_
    refine XS.aloadN X3.here hexec rfl (hb hbytes d4) rfl rfl ?_
    refine XS.iloadN X3.here hexec rfl (hb hbytes d5) rfl ?_
    refine XS.aloadN X3.here hexec rfl (hb hbytes d6) rfl rfl ?_
    refine iconstV X3.here hexec rfl 0 (hb hbytes d7) (by decide) ?_
    refine XS.iloadN X3.here hexec rfl (hb hbytes d8) rfl ?_
    exact Steps.refl _)
  obtain ⟨v6, T6, X6, E6, g6⟩ := X3.callS hexec (Cmp5.law l b A s.heap.size B3 o 0 len) hown (wks W (staticW U16 115 Cmp5.yN)) (wk W Cmp5.tab) (W := 0) (Nat.le_of_ble_eq_true rfl) (Nat.le_of_ble_eq_true rfl) (Nat.le_refl _) (by show 0 + len + 0 ≤ len; omega) (g := (mkF m 9 #[.val (.ref b), .val (.int (Int32.ofNat o)), .val (.int (Int32.ofNat len)), .val (.ref s.heap.size), .unset, .unset] [.int (Int32.ofNat len), .int (Int32.ofNat 0), .ref s.heap.size, .int (Int32.ofNat o), .ref b])) rfl (by rw [hml]; rfl) c5 (argsL := [.ref b, .int (Int32.ofNat o), .ref s.heap.size, .int (Int32.ofNat 0), .int (Int32.ofNat len)]) (rest := []) rfl rfl (by show 2 * 0 + 0 ≤ _; decide) (hb hbytes d9) (⟨rfl, hA3, ba3, hne, l1, by rw [bs3]; simp, hp⟩)
  obtain ⟨rfl, B6, p6, f6⟩ := E6
  have c7 : Steps p.tables e below (s₁.setTop (entryFrame m #[.ref b, .int (Int32.ofNat o), .int (Int32.ofNat len)] 6)) (T6.setTop (mkF m 12 #[.val (.ref b), .val (.int (Int32.ofNat o)), .val (.int (Int32.ofNat len)), .val (.ref s.heap.size), .unset, .unset] [.int (Int32.ofNat len)])) := g6
  have c8 : Steps p.tables e below (s₁.setTop (entryFrame m #[.ref b, .int (Int32.ofNat o), .int (Int32.ofNat len)] 6)) (T6.setTop (mkF m 58 #[.val (.ref b), .val (.int (Int32.ofNat o)), .val (.int (Int32.ofNat len)), .val (.ref s.heap.size), .val (.int (Int32.ofNat len)), .unset] [.ref s.heap.size])) := c7.trans (by
    refine XS.istore X6.here hexec rfl (hb hbytes d12) rfl rfl ?_
    refine XS.iload X6.here hexec rfl (hb hbytes d14) rfl ?_
    refine XS.iloadN X6.here hexec rfl (hb hbytes d16) rfl ?_
    refine XS.icmpYes X6.here hexec rfl (pc0 := 17) rfl (hb hbytes d17) rfl (ii_eq_t rfl) (by decide) rfl ?_
    refine XS.aloadN X6.here hexec rfl (hb hbytes d57) rfl rfl ?_
    exact Steps.refl _)
  have X8 := X6.wide (L' := []) (cells' := 1) (slots' := len) (fun x hx hlt => by
    simp only [List.nil_append, copyLocs, List.mem_map, List.mem_range] at hx
    obtain ⟨i, -, rfl⟩ := hx
    exact absurd hlt (Nat.lt_irrefl _)) (Nat.le_refl _) (by omega)
  exact ⟨T6, some (.ref s.heap.size), _, _, _, X8, rfl, rfl, rfl, (fun h => by cases h), ⟨⟨rfl, B6, ba3.like (X3.warmed.alike.symm.trans X6.warmed.alike) p6.1 f6.1 f6.2.1 f6.2.2.1, f6.2.1.trans bv3, by rw [X6.warmed.alike.findClass, f6.1]; exact bf3, by rw [f6.2.2.1, bs3]; simp, fun j hj => by rw [f6.2.2.2 j, if_pos (by omega)]; rfl, kp3.put p6 (Nat.le_refl _)⟩, by rw [p6.2.2, bh3, hh0]; simp⟩, fun fs hl => c8.trans (X8.areturnOut hexec rfl hret rfl (hb hbytes d58) hl)⟩
end Cmp3
namespace CodL
def yN : MethodName := ⟨"java/lang/StringUTF16", "coderFromArrayLen", "([BI)B"⟩
abbrev yB : ByteArray := jdk_52_method_15_code
theorem d0 : decode yB 0 = .ok (.iload_n 1, 1) := by decide +kernel
theorem d1 : decode yB 1 = .ok (.aload_n 0, 1) := by decide +kernel
theorem d2 : decode yB 2 = .ok (.arraylength, 1) := by decide +kernel
theorem d3 : decode yB 3 = .ok (.isub, 1) := by decide +kernel
theorem d4 : decode yB 4 = .ok (.bipush 31, 2) := by decide +kernel
theorem d6 : decode yB 6 = .ok (.iushr, 1) := by decide +kernel
theorem d7 : decode yB 7 = .ok (.i2b, 1) := by decide +kernel
theorem d8 : decode yB 8 = .ok (.ireturn, 1) := by decide +kernel
def site : List Cond := []
def tab : Cond := tabOf yN yB 2 (some .byte) site
def P (d : Addr) (B : Cell) (args : Array Value) (s : State) : Prop := args = #[.ref d, .int (Int32.ofNat B.slots.size)] ∧ Arr .byte d B s
def E (r : Option Value) (s u : State) : Prop := XT.PureE (some (.int 0)) r s u
/-- an array as long as the number of chars: LATIN1 -/
theorem law (l : Launch) (d : Addr) (B : Cell) : Law l yN 2 2 0 0 yB 2 (some .byte) site (P d B) E [] 0 0 := by
  refine Law.of_walk (plainFor_of_name (by decide +kernel)) (by decide +kernel) (by decide +kernel) (by decide) (fun _ _ h => by rw [h.1]; rfl) (fun _ U U' hal hh h => ⟨h.1, h.2.mv hal hh⟩) (fun r U U' V V' h1 hal h2 h => XT.PureE.mv r U U' V V' h1 hal h2 h) ?_
  intro p e s m args below meth c s₁ X0 hexec hbytes hml hret hlk hnm hown hh0 W hP
  obtain ⟨rfl, hB⟩ := hP
  have hB0 := hB.mv X0.warmed.alike hh0
  have c1 : Steps p.tables e below (s₁.setTop (entryFrame m #[.ref d, .int (Int32.ofNat B.slots.size)] 2)) (s₁.setTop (mkF m 0 #[.val (.ref d), .val (.int (Int32.ofNat B.slots.size))] [])) := entry rfl
  have c2 : Steps p.tables e below (s₁.setTop (entryFrame m #[.ref d, .int (Int32.ofNat B.slots.size)] 2)) (s₁.setTop (mkF m 2 #[.val (.ref d), .val (.int (Int32.ofNat B.slots.size))] [.ref d, .int (Int32.ofNat B.slots.size)])) := c1.trans (by
    refine XS.iloadN X0.here hexec rfl (hb hbytes d0) rfl ?_
    refine XS.aloadN X0.here hexec rfl (hb hbytes d1) rfl rfl ?_
    exact Steps.refl _)
  have c3 : Steps p.tables e below (s₁.setTop (entryFrame m #[.ref d, .int (Int32.ofNat B.slots.size)] 2)) (s₁.setTop (mkF m 8 #[.val (.ref d), .val (.int (Int32.ofNat B.slots.size))] [.int (lo8 (ushr (Int32.ofNat B.slots.size - Int32.ofNat B.slots.size) 31))])) := c2.trans (by
    refine X0.alen hexec hB0 rfl rfl (hb hbytes d2) ?_
    refine XS.isub X0.here hexec rfl (hb hbytes d3) rfl ?_
    refine bipushV X0.here hexec rfl 31 (hb hbytes d4) (by decide) ?_
    refine iushr X0.here hexec rfl (hb hbytes d6) rfl ?_
    refine i2b X0.here hexec rfl (hb hbytes d7) rfl ?_
    exact Steps.refl _)
  have e0 : lo8 (ushr (Int32.ofNat B.slots.size - Int32.ofNat B.slots.size) 31) = 0 := by rw [Int32.sub_self]; decide
  rw [e0] at c3
  exact ⟨s₁, some (.int 0), _, _, _, X0, rfl, rfl, rfl, (fun h => by cases h), ⟨rfl, hh0⟩, fun fs hl => c3.trans (X0.ireturnOut hexec hret rfl (Or.inr (Or.inr (Or.inl rfl))) (hb hbytes d8) hl)⟩
end CodL
/-- the String at a is Latin-1 over a new byte[] (the heap's one new cell): the low bytes of the len chars of A from o on; every cell but a is kept -/
def Got (a : Addr) (D : Cell) (fV fC : Field) (A : Cell) (o len : Nat) (r : Option Value) (s u : State) : Prop := r = none ∧ ∃ D' V : Cell, Blank "java/lang/String" a D' u ∧ Same D D' [fV.slot, fC.slot] ∧ D'.slots[fV.slot]? = some (.ref s.heap.size) ∧ D'.slots[fC.slot]? = some (.int 0) ∧ Arr .byte s.heap.size V u ∧ V.vm = .none ∧ u.vm.findClass "[B" = some V.cls ∧ V.slots.size = len ∧ (∀ j, j < len → V.slots[j]? = some (.int (lo8 (cv A (o + j))))) ∧ (∀ (y : Addr) (c : Cell), y ≠ a → s.heap[y]? = some c → u.heap[y]? = some c) ∧ u.heap.size = s.heap.size + 1
theorem Got.mv {a : Addr} {D A : Cell} {fV fC : Field} {o len : Nat} : ∀ r (U U' V V' : State), U'.heap = U.heap → V.vm.Alike V'.vm → V'.heap = V.heap → Got a D fV fC A o len r U V → Got a D fV fC A o len r U' V' :=
  fun r U U' V V' h1 hal h2 ⟨e0, D', X, a1, a2, a3, a4, a5, a6, a7, a8, a9, a10, a11⟩ => ⟨e0, D', X, a1.mv hal h2, a2, by rw [h1]; exact a3, a4, by rw [h1]; exact a5.mv hal h2, a6, by rw [hal.findClass]; exact a7, a8, a9, by rw [h1, h2]; exact a10, by rw [h1, h2]; exact a11⟩
namespace New4
def yN : MethodName := ⟨"java/lang/String", "<init>", "([CIILjava/lang/Void;)V"⟩
abbrev yB : ByteArray := jdk_42_method_149_code
theorem d0 : decode yB 0 = .ok (.aload_n 0, 1) := by decide +kernel
theorem d1 : decode yB 1 = .ok (.invokespecial 1, 3) := by decide +kernel
theorem d4 : decode yB 4 = .ok (.iload_n 3, 1) := by decide +kernel
theorem d5 : decode yB 5 = .ok (.ifCond (.ne) 22, 3) := by decide +kernel
theorem d27 : decode yB 27 = .ok (.getstatic 38, 3) := by decide +kernel
theorem d30 : decode yB 30 = .ok (.ifCond (.eq) 28, 3) := by decide +kernel
theorem d33 : decode yB 33 = .ok (.aload_n 1, 1) := by decide +kernel
theorem d34 : decode yB 34 = .ok (.iload_n 2, 1) := by decide +kernel
theorem d35 : decode yB 35 = .ok (.iload_n 3, 1) := by decide +kernel
theorem d36 : decode yB 36 = .ok (.invokestatic 177, 3) := by decide +kernel
theorem d39 : decode yB 39 = .ok (.astore 5, 2) := by decide +kernel
theorem d41 : decode yB 41 = .ok (.aload_n 0, 1) := by decide +kernel
theorem d42 : decode yB 42 = .ok (.aload 5, 2) := by decide +kernel
theorem d44 : decode yB 44 = .ok (.iload_n 3, 1) := by decide +kernel
theorem d45 : decode yB 45 = .ok (.invokestatic 47, 3) := by decide +kernel
theorem d48 : decode yB 48 = .ok (.putfield 15, 3) := by decide +kernel
theorem d51 : decode yB 51 = .ok (.aload_n 0, 1) := by decide +kernel
theorem d52 : decode yB 52 = .ok (.aload 5, 2) := by decide +kernel
theorem d54 : decode yB 54 = .ok (.putfield 9, 3) := by decide +kernel
theorem d57 : decode yB 57 = .ok (.return_, 1) := by decide +kernel
def site : List Cond := [.fieldLink "java/lang/String" 38 "java/lang/String" "COMPACT_STRINGS" "Z", Cmp3.tab, CodL.tab, .laysFinal "java/lang/String" "java/lang/String" "value" "[B", .fieldLink "java/lang/String" 9 "java/lang/String" "value" "[B", .laysFinal "java/lang/String" "java/lang/String" "coder" "B", .fieldLink "java/lang/String" 15 "java/lang/String" "coder" "B"] ++ objW "java/lang/String" 1 ++ staticW "java/lang/String" 177 Cmp3.yN ++ staticW "java/lang/String" 47 CodL.yN
def tab : Cond := tabOf yN yB 6 none site
def P (a : Addr) (D : Cell) (fV fC : Field) (b : Addr) (A : Cell) (z : Int32) (o len : Nat) (args : Array Value) (s : State) : Prop := args = #[.ref a, .ref b, .int (Int32.ofNat o), .int (Int32.ofNat len), .null] ∧ Blank "java/lang/String" a D s ∧ Found "java/lang/String" "value" "[B" fV s ∧ Found "java/lang/String" "coder" "B" fC s ∧ Ch b A s ∧ StaticIs s "java/lang/String" "COMPACT_STRINGS" "Z" (.int z) ∧ ¬ z = 0 ∧ 0 < len ∧ o + len ≤ A.slots.size ∧ len ≤ 536870912 ∧ ∀ i, i < len → ¬ 255 < cv A (o + i)
def E (a : Addr) (D : Cell) (fV fC : Field) (A : Cell) (o len : Nat) (r : Option Value) (s u : State) : Prop := Got a D fV fC A o len r s u
/-- len > 0, no char of the range above 255: a Latin-1 String of their low bytes -/
theorem law (l : Launch) (a : Addr) (D : Cell) (fV fC : Field) (b : Addr) (A : Cell) (z : Int32) (o len : Nat) : Law l yN 5 4 2 35 yB 6 none site (P a D fV fC b A z o len) (E a D fV fC A o len) [⟨a, fC.slot⟩, ⟨a, fV.slot⟩] 1 len := by
  refine Law.of_walk (plainFor_of_name (by decide +kernel)) (by decide +kernel) (by decide +kernel) (by decide) (fun _ _ h => by rw [h.1]; rfl) (fun _ U U' hal hh h => ⟨h.1, h.2.1.mv hal hh, h.2.2.1.al hal, h.2.2.2.1.al hal, h.2.2.2.2.1.mv hal hh, h.2.2.2.2.2.1.there hal hh, h.2.2.2.2.2.2⟩) (fun r U U' V V' h1 hal h2 h => Got.mv r U U' V V' h1 hal h2 h) ?_
  intro p e s m args below meth c s₁ X0 hexec hbytes hml hret hlk hnm hown hh0 W hP
  obtain ⟨rfl, hB, f1, f2, hA, s1, hz, l0, l1, l2, hp⟩ := hP
  have a31 := hA.1.2.2.2
  have c1 : Steps p.tables e below (s₁.setTop (entryFrame m #[.ref a, .ref b, .int (Int32.ofNat o), .int (Int32.ofNat len), .null] 6)) (s₁.setTop (mkF m 0 #[.val (.ref a), .val (.ref b), .val (.int (Int32.ofNat o)), .val (.int (Int32.ofNat len)), .val .null, .unset] [])) := entry rfl
  have c2 : Steps p.tables e below (s₁.setTop (entryFrame m #[.ref a, .ref b, .int (Int32.ofNat o), .int (Int32.ofNat len), .null] 6)) (s₁.setTop (mkF m 1 #[.val (.ref a), .val (.ref b), .val (.int (Int32.ofNat o)), .val (.int (Int32.ofNat len)), .val .null, .unset] [.ref a])) := c1.trans (by
    refine XS.aloadN X0.here hexec rfl (hb hbytes d0) rfl rfl ?_
    exact Steps.refl _)
  obtain ⟨T3, X3, q3, st3⟩ := X0.oinit hexec hown (wks W (objW "java/lang/String" 1)) (g := (mkF m 1 #[.val (.ref a), .val (.ref b), .val (.int (Int32.ofNat o)), .val (.int (Int32.ofNat len)), .val .null, .unset] [.ref a])) rfl (by rw [hml]; rfl) (rest := []) rfl (hb hbytes d1) (W := 0) (by show 2 * 0 + 0 ≤ _; decide) (Nat.le_of_ble_eq_true rfl) (Nat.le_of_ble_eq_true rfl)
  have hh3 := q3.trans hh0
  have c4 : Steps p.tables e below (s₁.setTop (entryFrame m #[.ref a, .ref b, .int (Int32.ofNat o), .int (Int32.ofNat len), .null] 6)) (T3.setTop (mkF m 27 #[.val (.ref a), .val (.ref b), .val (.int (Int32.ofNat o)), .val (.int (Int32.ofNat len)), .val .null, .unset] [])) := (c2.trans (st3 _ (Steps.refl _))).trans (by
    refine XS.iloadN X3.here hexec rfl (hb hbytes d4) rfl ?_
    refine XS.ifYes X3.here hexec rfl (pc0 := 5) rfl (hb hbytes d5) rfl (i0_ne_t (nz32 (by omega) l0)) (by decide) rfl ?_
    exact Steps.refl _)
  obtain ⟨T5, X5, q5, st5⟩ := X3.sget hexec hown (wk W (.fieldLink "java/lang/String" 38 "java/lang/String" "COMPACT_STRINGS" "Z")) s1 (fun _ _ h => by rw [hh3]; exact h) (g := (mkF m 27 #[.val (.ref a), .val (.ref b), .val (.int (Int32.ofNat o)), .val (.int (Int32.ofNat len)), .val .null, .unset] [])) rfl (hb hbytes d27)
  have hh5 := q5.trans hh3
  have c6 : Steps p.tables e below (s₁.setTop (entryFrame m #[.ref a, .ref b, .int (Int32.ofNat o), .int (Int32.ofNat len), .null] 6)) (T5.setTop (mkF m 30 #[.val (.ref a), .val (.ref b), .val (.int (Int32.ofNat o)), .val (.int (Int32.ofNat len)), .val .null, .unset] [.int z])) := c4.trans (st5 _ (Steps.refl _))
  have c7 : Steps p.tables e below (s₁.setTop (entryFrame m #[.ref a, .ref b, .int (Int32.ofNat o), .int (Int32.ofNat len), .null] 6)) (T5.setTop (mkF m 36 #[.val (.ref a), .val (.ref b), .val (.int (Int32.ofNat o)), .val (.int (Int32.ofNat len)), .val .null, .unset] [.int (Int32.ofNat len), .int (Int32.ofNat o), .ref b])) := c6.trans (by
    refine XS.ifNo X5.here hexec rfl (hb hbytes d30) rfl (i0_eq_f hz) ?_
    refine XS.aloadN X5.here hexec rfl (hb hbytes d33) rfl rfl ?_
    refine XS.iloadN X5.here hexec rfl (hb hbytes d34) rfl ?_
    refine XS.iloadN X5.here hexec rfl (hb hbytes d35) rfl ?_
    exact Steps.refl _)
  obtain ⟨v8, T8, X8, E8, g8⟩ := X5.callS hexec (Cmp3.law l b A o len) hown (wks W (staticW "java/lang/String" 177 Cmp3.yN)) (wk W Cmp3.tab) (W := 0) (Nat.le_of_ble_eq_true rfl) (Nat.le_of_ble_eq_true rfl) (Nat.le_refl _) (by show 0 + len ≤ len; omega) (g := (mkF m 36 #[.val (.ref a), .val (.ref b), .val (.int (Int32.ofNat o)), .val (.int (Int32.ofNat len)), .val .null, .unset] [.int (Int32.ofNat len), .int (Int32.ofNat o), .ref b])) rfl (by rw [hml]; rfl) c7 (argsL := [.ref b, .int (Int32.ofNat o), .int (Int32.ofNat len)]) (rest := []) rfl rfl (by show 2 * 0 + 0 ≤ _; decide) (hb hbytes d36) (⟨rfl, hA.mv X5.warmed.alike hh5, l1, l2, hp⟩)
  obtain ⟨e8, z8⟩ := E8
  obtain ⟨rfl, N, n1, n2, n3, n4, n5, n6⟩ := NewArr.mv _ T5 s _ _ hh5.symm (Vm.Alike.refl _) rfl e8
  rw [hh5] at z8
  have hB1 := hB.keep X8.warmed.alike (n6 _ _ hB.1)
  have hne : s.heap.size ≠ a := (Nat.ne_of_lt (Array.getElem?_eq_some_iff.mp hB.1).1).symm
  have c9 : Steps p.tables e below (s₁.setTop (entryFrame m #[.ref a, .ref b, .int (Int32.ofNat o), .int (Int32.ofNat len), .null] 6)) (T8.setTop (mkF m 39 #[.val (.ref a), .val (.ref b), .val (.int (Int32.ofNat o)), .val (.int (Int32.ofNat len)), .val .null, .unset] [.ref s.heap.size])) := g8
  have c10 : Steps p.tables e below (s₁.setTop (entryFrame m #[.ref a, .ref b, .int (Int32.ofNat o), .int (Int32.ofNat len), .null] 6)) (T8.setTop (mkF m 45 #[.val (.ref a), .val (.ref b), .val (.int (Int32.ofNat o)), .val (.int (Int32.ofNat len)), .val .null, .val (.ref s.heap.size)] [.int (Int32.ofNat N.slots.size), .ref s.heap.size, .ref a])) := by
    have hc : Steps p.tables e below (s₁.setTop (entryFrame m #[.ref a, .ref b, .int (Int32.ofNat o), .int (Int32.ofNat len), .null] 6)) (T8.setTop (mkF m 45 #[.val (.ref a), .val (.ref b), .val (.int (Int32.ofNat o)), .val (.int (Int32.ofNat len)), .val .null, .val (.ref s.heap.size)] [.int (Int32.ofNat len), .ref s.heap.size, .ref a])) := c9.trans (by
      refine XS.astore X8.here hexec rfl (hb hbytes d39) rfl rfl rfl ?_
      refine XS.aloadN X8.here hexec rfl (hb hbytes d41) rfl rfl ?_
      refine XS.aload X8.here hexec rfl (hb hbytes d42) rfl rfl ?_
      refine XS.iloadN X8.here hexec rfl (hb hbytes d44) rfl ?_
      exact Steps.refl _)
    rw [n4]; exact hc
  obtain ⟨v11, T11, X11, E11, g11⟩ := X8.callS hexec (CodL.law l s.heap.size N) hown (wks W (staticW "java/lang/String" 47 CodL.yN)) (wk W CodL.tab) (W := 1) (Nat.le_of_ble_eq_true rfl) (Nat.le_of_ble_eq_true rfl) (Nat.le_refl _) (by show 0 + len + 0 ≤ len; omega) (g := (mkF m 45 #[.val (.ref a), .val (.ref b), .val (.int (Int32.ofNat o)), .val (.int (Int32.ofNat len)), .val .null, .val (.ref s.heap.size)] [.int (Int32.ofNat N.slots.size), .ref s.heap.size, .ref a])) rfl (by rw [hml]; rfl) c10 (argsL := [.ref s.heap.size, .int (Int32.ofNat N.slots.size)]) (rest := [.ref a]) rfl rfl (by show 2 * 0 + (1 + 0) ≤ _; decide) (hb hbytes d45) (⟨rfl, n1⟩)
  obtain ⟨rfl, q11⟩ := E11
  have hB11 := hB1.mv (X8.warmed.alike.symm.trans X11.warmed.alike) q11
  have c12 : Steps p.tables e below (s₁.setTop (entryFrame m #[.ref a, .ref b, .int (Int32.ofNat o), .int (Int32.ofNat len), .null] 6)) (T11.setTop (mkF m 48 #[.val (.ref a), .val (.ref b), .val (.int (Int32.ofNat o)), .val (.int (Int32.ofNat len)), .val .null, .val (.ref s.heap.size)] [.int 0, .ref a])) := g11
  obtain ⟨T13, X13, p13, bl13, sl13, st13⟩ := X11.finit hexec hown (wk W (.fieldLink "java/lang/String" 15 "java/lang/String" "coder" "B")) (Or.inr ⟨_, (wk W (.laysFinal "java/lang/String" "java/lang/String" "coder" "B"))⟩) (Or.inl ⟨rfl, hnm⟩) f2 (Or.inl rfl) hB11 (t := .byte) (by decide +kernel) rfl (g := (mkF m 48 #[.val (.ref a), .val (.ref b), .val (.int (Int32.ofNat o)), .val (.int (Int32.ofNat len)), .val .null, .val (.ref s.heap.size)] [.int 0, .ref a])) rfl (rest := []) rfl (hb hbytes d48)
  have c14 : Steps p.tables e below (s₁.setTop (entryFrame m #[.ref a, .ref b, .int (Int32.ofNat o), .int (Int32.ofNat len), .null] 6)) (T13.setTop (mkF m 54 #[.val (.ref a), .val (.ref b), .val (.int (Int32.ofNat o)), .val (.int (Int32.ofNat len)), .val .null, .val (.ref s.heap.size)] [.ref s.heap.size, .ref a])) := (c12.trans (st13 _ (Steps.refl _))).trans (by
    refine XS.aloadN X13.here hexec rfl (hb hbytes d51) rfl rfl ?_
    refine XS.aload X13.here hexec rfl (hb hbytes d52) rfl rfl ?_
    exact Steps.refl _)
  obtain ⟨T15, X15, p15, bl15, sl15, st15⟩ := X13.finit hexec hown (wk W (.fieldLink "java/lang/String" 9 "java/lang/String" "value" "[B")) (Or.inr ⟨_, (wk W (.laysFinal "java/lang/String" "java/lang/String" "value" "[B"))⟩) (Or.inl ⟨rfl, hnm⟩) f1 (Or.inl rfl) bl13 (t := (.array .byte)) (by decide +kernel) rfl (g := (mkF m 54 #[.val (.ref a), .val (.ref b), .val (.int (Int32.ofNat o)), .val (.int (Int32.ofNat len)), .val .null, .val (.ref s.heap.size)] [.ref s.heap.size, .ref a])) rfl (rest := []) rfl (hb hbytes d54)
  have c16 : Steps p.tables e below (s₁.setTop (entryFrame m #[.ref a, .ref b, .int (Int32.ofNat o), .int (Int32.ofNat len), .null] 6)) (T15.setTop (mkF m 57 #[.val (.ref a), .val (.ref b), .val (.int (Int32.ofNat o)), .val (.int (Int32.ofNat len)), .val .null, .val (.ref s.heap.size)] [])) := c14.trans (st15 _ (Steps.refl _))
  have ap := apart (Or.inr ⟨_, (wk W (.laysFinal "java/lang/String" "java/lang/String" "value" "[B"))⟩) (Or.inr ⟨_, (wk W (.laysFinal "java/lang/String" "java/lang/String" "coder" "B"))⟩) f1 f2 (t₁ := .array .byte) (t₂ := .byte) (by decide +kernel) (by decide +kernel) (by decide)
  have al := X8.warmed.alike.symm.trans X15.warmed.alike
  have n7 : T11.heap[s.heap.size]? = some N := by rw [q11]; exact n1.1
  exact ⟨T15, none, _, _, _, X15, by simp, rfl, by omega, (fun _ => rfl), ⟨rfl, _, N, bl15, ((Same.refl D _).set _ (by simp)).set _ (by simp), sl15, (Cell.slots_setSlot_ne _ ap).trans sl13, n1.keep al (p15.other hne (p13.other hne n7)), n2, by rw [al.findClass]; exact n3, n4, n5, fun y c h1 h2 => p15.other h1 (p13.other h1 (by rw [q11]; exact n6 y c h2)), by rw [p15.2.2, p13.2.2, q11]; exact z8⟩, fun fs hl => c16.trans (X15.returnOut hexec hret (hb hbytes d57) hl)⟩
end New4
namespace New1
def yN : MethodName := ⟨"java/lang/String", "<init>", "([C)V"⟩
abbrev yB : ByteArray := jdk_42_method_3_code
theorem d0 : decode yB 0 = .ok (.aload_n 0, 1) := by decide +kernel
theorem d1 : decode yB 1 = .ok (.aload_n 1, 1) := by decide +kernel
theorem d2 : decode yB 2 = .ok (.iconst 0, 1) := by decide +kernel
theorem d3 : decode yB 3 = .ok (.aload_n 1, 1) := by decide +kernel
theorem d4 : decode yB 4 = .ok (.arraylength, 1) := by decide +kernel
theorem d5 : decode yB 5 = .ok (.aconst_null, 1) := by decide +kernel
theorem d6 : decode yB 6 = .ok (.invokespecial 27, 3) := by decide +kernel
theorem d9 : decode yB 9 = .ok (.return_, 1) := by decide +kernel
def site : List Cond := [New4.tab] ++ initW "java/lang/String" 27 New4.yN
def tab : Cond := tabOf yN yB 2 none site
def P (a : Addr) (D : Cell) (fV fC : Field) (b : Addr) (A : Cell) (z : Int32) (args : Array Value) (s : State) : Prop := args = #[.ref a, .ref b] ∧ Blank "java/lang/String" a D s ∧ Found "java/lang/String" "value" "[B" fV s ∧ Found "java/lang/String" "coder" "B" fC s ∧ Ch b A s ∧ StaticIs s "java/lang/String" "COMPACT_STRINGS" "Z" (.int z) ∧ ¬ z = 0 ∧ 0 < A.slots.size ∧ A.slots.size ≤ 536870912 ∧ ∀ i, i < A.slots.size → ¬ 255 < cv A i
def E (a : Addr) (D : Cell) (fV fC : Field) (A : Cell) (r : Option Value) (s u : State) : Prop := Got a D fV fC A 0 A.slots.size r s u
/-- new String(chars), not empty, no char above 255: a Latin-1 String of their low bytes -/
theorem law (l : Launch) (a : Addr) (D : Cell) (fV fC : Field) (b : Addr) (A : Cell) (z : Int32) : Law l yN 2 1 3 52 yB 2 none site (P a D fV fC b A z) (E a D fV fC A) [⟨a, fC.slot⟩, ⟨a, fV.slot⟩] 1 A.slots.size := by
  refine Law.of_walk (plainFor_of_name (by decide +kernel)) (by decide +kernel) (by decide +kernel) (by decide) (fun _ _ h => by rw [h.1]; rfl) (fun _ U U' hal hh h => ⟨h.1, h.2.1.mv hal hh, h.2.2.1.al hal, h.2.2.2.1.al hal, h.2.2.2.2.1.mv hal hh, h.2.2.2.2.2.1.there hal hh, h.2.2.2.2.2.2⟩) (fun r U U' V V' h1 hal h2 h => Got.mv r U U' V V' h1 hal h2 h) ?_
  intro p e s m args below meth c s₁ X0 hexec hbytes hml hret hlk hnm hown hh0 W hP
  obtain ⟨rfl, hB, f1, f2, hA, s1, hz, l0, l2, hp⟩ := hP
  have c1 : Steps p.tables e below (s₁.setTop (entryFrame m #[.ref a, .ref b] 2)) (s₁.setTop (mkF m 0 #[.val (.ref a), .val (.ref b)] [])) := entry rfl
  have c2 : Steps p.tables e below (s₁.setTop (entryFrame m #[.ref a, .ref b] 2)) (s₁.setTop (mkF m 6 #[.val (.ref a), .val (.ref b)] [.null, .int (Int32.ofNat A.slots.size), .int 0, .ref b, .ref a])) := c1.trans (by
    refine XS.aloadN X0.here hexec rfl (hb hbytes d0) rfl rfl ?_
    refine XS.aloadN X0.here hexec rfl (hb hbytes d1) rfl rfl ?_
    refine iconstV X0.here hexec rfl 0 (hb hbytes d2) (by decide) ?_
    refine XS.aloadN X0.here hexec rfl (hb hbytes d3) rfl rfl ?_
    refine X0.alen hexec (hA.1.mv X0.warmed.alike hh0) rfl rfl (hb hbytes d4) ?_
    refine XS.aconstNull X0.here hexec rfl (hb hbytes d5) ?_
    exact Steps.refl _)
  obtain ⟨v3, T3, X3, E3, g3⟩ := X0.callN hexec (New4.law l a D fV fC b A z 0 A.slots.size) rfl hown (wks W (initW "java/lang/String" 27 New4.yN)) (W New4.tab (by simp only [site, List.mem_cons, List.mem_append, true_or, or_true])) (W := 0) (Nat.le_of_ble_eq_true rfl) (Nat.le_of_ble_eq_true rfl) (Nat.le_refl _) (by show 0 + A.slots.size ≤ A.slots.size; omega) (g := (mkF m 6 #[.val (.ref a), .val (.ref b)] [.null, .int (Int32.ofNat A.slots.size), .int (Int32.ofNat 0), .ref b, .ref a])) rfl (by rw [hml]; rfl) c2 (argsL := [.ref b, .int (Int32.ofNat 0), .int (Int32.ofNat A.slots.size), .null]) (rest := []) rfl rfl (by show 2 * 0 + 0 ≤ _; decide) (hb hbytes d6) (⟨rfl, hB.mv X0.warmed.alike hh0, f1.al X0.warmed.alike, f2.al X0.warmed.alike, hA.mv X0.warmed.alike hh0, s1.there X0.warmed.alike hh0, hz, l0, by omega, l2, fun i hi => by rw [Nat.zero_add]; exact hp i hi⟩)
  have e0 := Got.mv _ s₁ s _ _ hh0.symm (Vm.Alike.refl _) rfl E3
  obtain rfl := e0.1
  have c4 : Steps p.tables e below (s₁.setTop (entryFrame m #[.ref a, .ref b] 2)) (T3.setTop (mkF m 9 #[.val (.ref a), .val (.ref b)] [])) := g3
  exact ⟨T3, none, _, _, _, X3, by simp, rfl, by omega, (fun _ => rfl), e0, fun fs hl => c4.trans (X3.returnOut hexec hret (hb hbytes d9) hl)⟩
theorem pays {l : Launch} {R : Room} {p : Program} {e : Env} {below : List Frame} {s : State} {sargs : Array Value} {len W : Nat} (a : Addr) (D : Cell) (fV fC : Field) (b : Addr) (A : Cell) (z : Int32) (htab : tab.before sargs s = true) (hfr : 4 ≤ R.frames) (hlo : W + 65 ≤ R.locals) :
    Back l R p e below s sargs yN len W (fun A₁ a₁ => A₁.cells + 1 ≤ R.cells ∧ A₁.slots + A.slots.size ≤ R.slots ∧ P a D fV fC b A z a₁ A₁.U) (fun A₁ _ v₁ B₁ => E a D fV fC A v₁ A₁.U B₁.U ∧ B₁.locs = A₁.locs ++ [⟨a, fC.slot⟩, ⟨a, fV.slot⟩] ∧ B₁.cells = A₁.cells + 1 ∧ B₁.slots = A₁.slots + A.slots.size) :=
  (law l a D fV fC b A z).pays htab hfr (by omega)
end New1
end StrChars
namespace StrChars.Road
open Jvm Sem ClassFile Op Lib Jvm.Stand Jvm.Free Jvm.Free.XT
open Jvm.Lib.Cold (StaticIs)
abbrev ST : String := "java/lang/String"
/-- every table word that New1's law asks, flat -/
abbrev words : List Jvm.Cond := [.code New1.yN New1.yB 2 none, .initialized ST, .methodLink ST 27 New4.yN, .instanceMethod New4.yN,
  .code New4.yN New4.yB 6 none, .fieldLink ST 38 ST "COMPACT_STRINGS" "Z", .laysFinal ST ST "value" "[B", .fieldLink ST 9 ST "value" "[B", .laysFinal ST ST "coder" "B", .fieldLink ST 15 ST "coder" "B",
  .methodLink ST 1 Lib.objectInit, .instanceMethod Lib.objectInit, .code Lib.objectInit ⟨#[0xb1]⟩ 1 none, .methodLink ST 177 Cmp3.yN, .static Cmp3.yN, .methodLink ST 47 CodL.yN, .static CodL.yN,
  .code Cmp3.yN Cmp3.yB 6 (some (.array .byte)), .initialized U16, .arrayClass .byte, .methodLink U16 115 Cmp5.yN, .static Cmp5.yN, .code Cmp5.yN Cmp5.yB 7 (some .int), .code CodL.yN CodL.yB 2 (some .byte)]
theorem tab_of {a : Array Value} {s : State} (h : ∀ w ∈ words, w.before a s = true) : New1.tab.before a s = true := by
  have h5 : Cmp5.tab.before a s = true := unparts (wk h (.code Cmp5.yN Cmp5.yB 7 (some .int))) (wks h (.initialized Cmp5.yN.cls :: Cmp5.site))
  have hc : CodL.tab.before a s = true := unparts (wk h (.code CodL.yN CodL.yB 2 (some .byte))) (wks h (.initialized CodL.yN.cls :: CodL.site))
  have q5 : ∀ w ∈ Cmp5.tab :: words, w.before a s = true := fun w hw => (List.mem_cons.mp hw).elim (fun e => e ▸ h5) (h w)
  have h3 : Cmp3.tab.before a s = true := unparts (wk q5 (.code Cmp3.yN Cmp3.yB 6 (some (.array .byte)))) (wks q5 (.initialized Cmp3.yN.cls :: Cmp3.site))
  have q3 : ∀ w ∈ Cmp3.tab :: CodL.tab :: words, w.before a s = true := fun w hw => (List.mem_cons.mp hw).elim (fun e => e ▸ h3) fun hw => (List.mem_cons.mp hw).elim (fun e => e ▸ hc) (h w)
  have h4 : New4.tab.before a s = true := unparts (wk q3 (.code New4.yN New4.yB 6 none)) (wks q3 (.initialized New4.yN.cls :: New4.site))
  have q4 : ∀ w ∈ New4.tab :: words, w.before a s = true := fun w hw => (List.mem_cons.mp hw).elim (fun e => e ▸ h4) (h w)
  exact unparts (wk q4 (.code New1.yN New1.yB 2 none)) (wks q4 (.initialized New1.yN.cls :: New1.site))
/-- the words ride from the start Z to the walk's own state -/
theorem moved {Z s : State} {a0 args : Array Value} (hZ : Z.Warmed39 s.vm) (hw : ∀ d ∈ words, d.before a0 Z = true) : ∀ d ∈ words, d.before args s = true := fun d hd => by
  have q := hw d hd
  have t : ∀ d ∈ words, d = .arrayClass .byte ∨ (d.onTables && d.keepsFace) = true := by decide +kernel
  rcases t d hd with rfl | t
  · exact RoadKit.mvA hZ q
  · exact RoadKit.mv hZ q t
/-- WHAT COMES BACK, over the tables of the start Z: h the heap at the call, h' behind it -/
def Q (Z : State) (x : Addr) (A : Cell) (h : Heap) (v : Option Value) (h' : Heap) (L : List Loc) : Prop := v = none ∧ (∀ y ∈ L, y.base = x) ∧ RoadKit.Keep h h' [x] ∧ h'.size = h.size + 1 ∧ RoadKit.Exa Z h' x ST ∧ RoadKit.Fld Z h' x ST "value" "[B" (.ref h.size) ∧ RoadKit.Fld Z h' x ST "coder" "B" (.int 0) ∧
  (∃ V : Cell, RoadKit.Arr Z h' h.size V .byte ∧ V.vm = .none ∧ Z.vm.findClass "[B" = some V.cls ∧ V.slots.size = A.slots.size ∧ ∀ j, j < A.slots.size → V.slots[j]? = some (.int (lo8 (cv A j)))) ∧
  ∀ (O n d : String) (w : Value), RoadKit.Fld Z h x O n d w → RoadKit.slotOf Z O n d ≠ RoadKit.slotOf Z ST "value" "[B" → RoadKit.slotOf Z O n d ≠ RoadKit.slotOf Z ST "coder" "B" → RoadKit.Fld Z h' x O n d w
/-- **new String(chars) AT A CALL, IN THE ROAD'S FORM**: for specialBack behind newO: x the fresh String, b the char[] with the cell A -/
theorem back {p : Program} {l : Launch} {e : Env} {R : Room} {s : State} {args : Array Value} {below : List Frame} {len W : Nat} {Z : State} {a0 : Array Value} {h : Heap} (hZ : Z.Warmed39 s.vm) (hw : ∀ d ∈ words, d.before a0 Z = true) {kI : Nat} (wi : (Jvm.Cond.instantiable ST kI).before a0 Z = true)
    {x b : Addr} {A : Cell} {z : Int32} {v0 c0 : Value} (E : RoadKit.Exa Z h x ST) (V : RoadKit.Fld Z h x ST "value" "[B" v0) (C : RoadKit.Fld Z h x ST "coder" "B" c0) (K : RoadKit.Arr Z h b A .char) (hty : Typed .char A) (S : RoadKit.Sta Z h ST "COMPACT_STRINGS" "Z" (.int z)) (hz : ¬ z = 0)
    (l0 : 0 < A.slots.size) (l2 : A.slots.size ≤ 536870912) (hp : ∀ i, i < A.slots.size → ¬ 255 < cv A i) (hfr : 4 ≤ R.frames) (hlo : W + 65 ≤ R.locals) :
    Back l R p e below s args New1.yN len W (fun P a => a = #[.ref x, .ref b] ∧ P.U.heap = h ∧ P.cells + 1 ≤ R.cells ∧ P.slots + A.slots.size ≤ R.slots)
      (fun P _ v B => ∃ L, Q Z x A h v B.U.heap L ∧ B.locs = P.locs ++ L ∧ B.cells = P.cells + 1 ∧ B.slots = P.slots + A.slots.size) := by
  intro m meth c P g ig mk a X hg hsize hdg hW hn hp'
  obtain ⟨rfl, rfl, r1, r2⟩ := hp'
  have al : Z.vm.Alike P.U.vm := hZ.alike.trans X.warmed.alike
  obtain ⟨D, cfV, kV, iV, fV, hD, gV, stV, knV, obV, asV, slV⟩ := id V
  obtain ⟨D', cfC, kC, iC, fC, hD', gC, stC, -, -, asC, slC⟩ := id C
  cases hD.symm.trans hD'
  obtain ⟨D2, kD, e1, e2, e3, e4, e5⟩ := id E
  cases hD.symm.trans e1
  obtain ⟨c2, k2, i1, i2, i3, -⟩ := Cond.instantiable_spec wi
  cases e2.symm.trans i1
  cases e3.symm.trans i2
  obtain ⟨kU, u1, u2⟩ := al.2.2 _ _ e3
  have hB : Blank ST x D P.U := ⟨hD, ⟨knV, fun q hq => by rw [hq] at obV; cases obV⟩, by rw [al.findClass]; exact e2, kU, u1, by rw [u2]; exact i3, by rw [u2]; exact e5 i3⟩
  have F1 : Found ST "value" "[B" fV P.U := ⟨SBG.found_only al ⟨cfV, kV, iV, gV⟩, stV⟩
  have F2 : Found ST "coder" "B" fC P.U := ⟨SBG.found_only al ⟨cfC, kC, iC, gC⟩, stC⟩
  have hA : Ch b A P.U := ⟨⟨K.1, State.isArrayOf_alike al K.2.1, K.2.2, by omega⟩, hty⟩
  have hS : StaticIs P.U ST "COMPACT_STRINGS" "Z" (.int z) := by
    obtain ⟨cfS, iS, kS, fS, st, cS, t1, t2, t3, t4, t5, t6, t7⟩ := S
    exact StaticIs.there (s := { Z with heap := P.U.heap }) ⟨cfS, iS, kS, fS, st, cS, t1, t2, t3, t4, t5, (fun q => by rw [q] at t6; cases t6), t7⟩ al rfl
  obtain ⟨v, B, X', ⟨⟨hv, E', V', q1, q2, q3, q4, q5, q6, q7, q8, q9, q10, q11⟩, hl, hc, hs⟩, st⟩ := New1.pays x D fV fC b A z (tab_of (moved hZ hw)) hfr hlo m meth c P g ig mk _ X hg hsize hdg hW hn ⟨r1, r2, rfl, hB, F1, F2, hA, hS, hz, l0, l2, hp⟩
  have al' : Z.vm.Alike B.U.vm := hZ.alike.trans X'.warmed.alike
  have hsz : E'.slots.size = D.slots.size := by
    obtain ⟨-, -, -, kB, w1, w2, w3⟩ := q1
    obtain ⟨kB', y1, y2⟩ := al'.2.2 _ _ e3
    rw [q2.2.1] at w1
    cases w1.symm.trans y1
    rw [w3, e5 i3, y2]
  refine ⟨v, B, X', ⟨_, ⟨hv, ?_, ⟨by omega, fun y cy hy hn' => q10 y cy (by simpa using hn') hy, fun y cy hy => ?_⟩, q11, ⟨E', _, q1.1, by rw [q2.2.1]; exact e2, by rw [q2.2.1]; exact e3, by rw [q2.1]; exact obV, fun _ => by rw [hsz]; exact e5 i3⟩,
    ⟨E', cfV, kV, iV, fV, q1.1, gV, stV, by rw [q2.1]; exact knV, by rw [q2.1]; exact obV, by rw [q2.2.1]; exact asV, q3⟩, ⟨E', cfC, kC, iC, fC, q1.1, gC, stC, by rw [q2.1]; exact knV, by rw [q2.1]; exact obV, by rw [q2.2.1]; exact asC, q4⟩,
    ⟨V', ⟨q5.1, State.isArrayOf_alike al'.symm q5.2.1, q5.2.2.1⟩, q6, by rw [← al'.findClass]; exact q7, q8, fun j hj => by have := q9 j hj; rwa [Nat.zero_add] at this⟩, fun O n d w F n1 n2 => ?_⟩, hl, hc, hs⟩, st⟩
  · intro y hy
    simp only [List.mem_cons, List.not_mem_nil, or_false] at hy
    rcases hy with rfl | rfl <;> rfl
  · by_cases q : y = x
    · subst q
      cases hD.symm.trans hy
      exact ⟨E', q1.1, q2.2.1, q2.1, hsz⟩
    · exact ⟨cy, q10 y cy q hy, rfl, rfl, rfl⟩
  · obtain ⟨D3, cf, k, i, f, g1, g2, g3, g4, g5, g6, g7⟩ := F
    cases hD.symm.trans g1
    simp only [RoadKit.slotOf, g2, gV, gC, Option.map_some, Option.getD_some] at n1 n2
    exact ⟨E', cf, k, i, f, q1.1, g2, g3, by rw [q2.1]; exact g4, by rw [q2.1]; exact g5, by rw [q2.2.1]; exact g6, by rw [q2.2.2 f.slot (by simp [n1, n2])]; exact g7⟩
end StrChars.Road
namespace StrChars.Road
open Jvm Sem ClassFile Op Lib Jvm.Stand Jvm.Free Jvm.Free.XT
/-- WHAT COMES BACK, the byte[] as a list of values -/
def QA (Z : State) (x : Addr) (zn : Int32) (cs : List Int32) (h : Heap) (v : Option Value) (h' : Heap) (L : List Loc) : Prop := v = none ∧ (∀ y ∈ L, y.base = x) ∧ RoadKit.Keep h h' [x] ∧ h'.size = h.size + 1 ∧ RoadKit.Exa Z h' x ST ∧ RoadKit.Fld Z h' x ST "value" "[B" (.ref h.size) ∧ RoadKit.Fld Z h' x ST "coder" "B" (.int 0) ∧
  (∃ kb, Z.vm.findClass "[B" = some kb ∧ RoadKit.Arv Z h' h.size kb .byte zn (cs.map fun c => .int (lo8 c)) (.int 0)) ∧
  ∀ (O n d : String) (w : Value), RoadKit.Fld Z h x O n d w → RoadKit.slotOf Z O n d ≠ RoadKit.slotOf Z ST "value" "[B" → RoadKit.slotOf Z O n d ≠ RoadKit.slotOf Z ST "coder" "B" → RoadKit.Fld Z h' x O n d w
/-- **new String(chars) AT A CALL, THE ARRAYS AS LISTS**: the char[] at b holds cs, not empty, no char above 255 -/
theorem backArv {p : Program} {l : Launch} {e : Env} {R : Room} {s : State} {args : Array Value} {below : List Frame} {len W : Nat} {Z : State} {a0 : Array Value} {h : Heap} (hZ : Z.Warmed39 s.vm) (hw : ∀ d ∈ words, d.before a0 Z = true) {kI : Nat} (wi : (Jvm.Cond.instantiable ST kI).before a0 Z = true)
    {x b : Addr} {k : ClassId} {zn z : Int32} {cs : List Int32} {dv v0 c0 : Value} (E : RoadKit.Exa Z h x ST) (V : RoadKit.Fld Z h x ST "value" "[B" v0) (C : RoadKit.Fld Z h x ST "coder" "B" c0) (K : RoadKit.Arv Z h b k .char zn (cs.map Value.int) dv) (S : RoadKit.Sta Z h ST "COMPACT_STRINGS" "Z" (.int z)) (hz : ¬ z = 0)
    (hlen : zn.toNatClampNeg = cs.length) (h0 : 0 < cs.length) (hbig : cs.length ≤ 536870912) (hall : ∀ c ∈ cs, ¬ 255 < c) (hfr : 4 ≤ R.frames) (hlo : W + 65 ≤ R.locals) :
    Back l R p e below s args New1.yN len W (fun P a => a = #[.ref x, .ref b] ∧ P.U.heap = h ∧ P.cells + 1 ≤ R.cells ∧ P.slots + cs.length ≤ R.slots)
      (fun P _ v B => ∃ L, QA Z x zn cs h v B.U.heap L ∧ B.locs = P.locs ++ L ∧ B.cells = P.cells + 1 ∧ B.slots = P.slots + cs.length) := by
  obtain ⟨A, K1, K2, K3, K4, K5, K6⟩ := K
  have e : A.slots.size = cs.length := K3.trans hlen
  have hat : ∀ (i : Nat) (hi : i < cs.length), A.slots[i]? = some (.int cs[i]) := fun i hi => by rw [K5 i (by omega)]; simp [List.getD_eq_getElem?_getD, hi]
  have hcv : ∀ (i : Nat) (hi : i < cs.length), cv A i = cs[i] := fun i hi => by unfold cv; rw [hat i hi]
  have hty : Typed .char A := fun i v hv => by
    have hi : i < A.slots.size := (Array.getElem?_eq_some_iff.mp hv).1
    have q := K5 i hi
    rw [hv] at q
    rw [Option.some.inj q]
    exact K6 i hi
  refine Back.mono (back hZ hw wi E V C K1 hty S hz (by omega) (by omega) (fun i hi => by rw [hcv i (by omega)]; exact hall _ (List.getElem_mem _)) hfr hlo) (fun P a hp => ⟨hp.1, hp.2.1, hp.2.2.1, by rw [e]; exact hp.2.2.2⟩) (fun P a v B hp hq => ?_)
  obtain ⟨L, ⟨q1, q2, q3, q4, q5, q6, q7, ⟨V', v1, v2, v3, v4, v5⟩, q9⟩, hl, hc, hs⟩ := hq
  refine ⟨L, ⟨q1, q2, q3, q4, q5, q6, q7, ⟨V'.cls, v3, V', v1, rfl, by rw [v4, e, hlen], K4, fun i hi => ?_, fun i hi => ?_⟩, q9⟩, hl, hc, by rw [hs, e]⟩
  · have hi' : i < cs.length := by omega
    rw [v5 i (by omega), hcv i hi']; simp [List.getD_eq_getElem?_getD, hi']
  · have hi' : i < cs.length := by omega
    simp only [List.getD_eq_getElem?_getD, List.getElem?_map, List.getElem?_eq_getElem hi', Option.map_some, Option.getD_some]
    exact fits_lo8 _
end StrChars.Road
namespace StrChars.Road
open Jvm Sem ClassFile Op Lib Jvm.Stand Jvm.Free Jvm.Free.XT
/-- WHAT COMES BACK, in the writer's own shape -/
def QV (Z : State) (x : Addr) (N : Int32) (bs : List Int32) (h : Heap) (n0 : Nat) (v : Option Value) (h' : Heap) (L : List Loc) : Prop := v = none ∧ RoadKit.Fr n0 L ∧ RoadKit.Keep h h' [x] ∧ RoadKit.Exa Z h' x ST ∧ RoadKit.Fld Z h' x ST "coder" "B" (.int 0) ∧
  ∃ (t : Addr) (kb : ClassId), n0 ≤ t ∧ h.size ≤ t ∧ ¬ t = x ∧ RoadKit.Fld Z h' x ST "value" "[B" (.ref t) ∧ RoadKit.Arv Z h' t kb .byte N (bs.map Value.int) (.int 0)
/-- **new String(chars) AT A CALL, FOR THE WRITER**: a char[] of n known ints, each 0 to 255 -/
theorem backV {p : Program} {l : Launch} {e : Env} {R : Room} {s : State} {args : Array Value} {below : List Frame} {len W : Nat} {Z : State} {a0 : Array Value} {h : Heap} (hZ : Z.Warmed39 s.vm) (hw : ∀ d ∈ words, d.before a0 Z = true) {kI : Nat} (wi : (Jvm.Cond.instantiable ST kI).before a0 Z = true)
    {x b : Addr} {kC : ClassId} {cs bs : List Int32} {d v0 c0 : Value} {z N : Int32} {n n0 : Nat} (hx0 : n0 ≤ x) (hh0 : n0 ≤ h.size) (E : RoadKit.Exa Z h x ST) (V : RoadKit.Fld Z h x ST "value" "[B" v0) (C : RoadKit.Fld Z h x ST "coder" "B" c0) (K : RoadKit.Arv Z h b kC .char N (cs.map Value.int) d) (S : RoadKit.Sta Z h ST "COMPACT_STRINGS" "Z" (.int z)) (hz : ¬ z = 0)
    (hn : cs.length = n) (hN : N = Int32.ofNat n) (l0 : 0 < n) (l2 : n ≤ 4000) (hp : ∀ c ∈ cs, ¬ c < 0 ∧ ¬ (255 : Int32) < c) (hb : bs = cs.map (fun c => c.toInt8.toInt32)) (hfr : 4 ≤ R.frames) (hlo : W + 65 ≤ R.locals) :
    Back l R p e below s args (⟨"java/lang/String", "<init>", "([C)V"⟩ : MethodName) len W (fun P a => a = #[.ref x, .ref b] ∧ P.U.heap = h ∧ P.cells + 1 ≤ R.cells ∧ P.slots + n ≤ R.slots)
      (fun P _ v B => ∃ L, QV Z x N bs h n0 v B.U.heap L ∧ B.locs = P.locs ++ L ∧ B.cells = P.cells + 1 ∧ B.slots = P.slots + n) := by
  subst hn hN hb
  refine Back.mono (backArv hZ hw wi E V C K S hz (n32 (by omega)) l0 (by omega) (fun c hc => (hp c hc).2) hfr hlo) (fun P a hp => hp) (fun P a v B hp hq => ?_)
  obtain ⟨L, ⟨q1, q2, q3, q4, q5, q6, q7, ⟨kb, v1, v2⟩, q9⟩, hl, hc, hs⟩ := hq
  exact ⟨L, ⟨q1, fun y hy => by rw [q2 y hy]; exact hx0, q3, q5, q7, h.size, kb, hh0, Nat.le_refl _, Nat.ne_of_gt E.lt, q6, by rw [List.map_map]; exact v2⟩, hl, hc, hs⟩
end StrChars.Road
end Jvm.Pilot.@@N@@
namespace Jvm.Pilot.@@N@@
open Jvm Jvm.ClassFile Sem Op Lib Jvm.Free Jvm.Stand Jvm.LawKit Jvm.RoadKit Bundle Jvm.Pilot.@@N@@.Jvm.D
theorem d_jdk_30_method_1_0 : decode jdk_30_method_1_code 0 = .ok (.aload_n 0, 1) := by decide +kernel
theorem d_jdk_30_method_1_1 : decode jdk_30_method_1_code 1 = .ok (.invokespecial 1, 3) := by decide +kernel
theorem d_jdk_30_method_1_4 : decode jdk_30_method_1_code 4 = .ok (.return_, 1) := by decide +kernel
theorem pn_0 : plainName "java/lang/Record" = true := by first | (simp [plainName, overriddenIn]; done) | decide +kernel
theorem d_jdk_43_method_3_0 : decode jdk_43_method_3_code 0 = .ok (.iload_n 0, 1) := by decide +kernel
theorem d_jdk_43_method_3_1 : decode jdk_43_method_3_code 1 = .ok (.sipush 255, 3) := by decide +kernel
theorem d_jdk_43_method_3_4 : decode jdk_43_method_3_code 4 = .ok (.if_icmp .gt 7, 3) := by decide +kernel
theorem d_jdk_43_method_3_7 : decode jdk_43_method_3_code 7 = .ok (.iconst 1, 1) := by decide +kernel
theorem d_jdk_43_method_3_8 : decode jdk_43_method_3_code 8 = .ok (.goto 4, 3) := by decide +kernel
theorem d_jdk_43_method_3_12 : decode jdk_43_method_3_code 12 = .ok (.ireturn, 1) := by decide +kernel
theorem pn_1 : plainName "java/lang/StringLatin1" = true := by first | (simp [plainName, overriddenIn]; done) | decide +kernel
theorem d_jdk_43_method_46_0 : decode jdk_43_method_46_code 0 = .ok (.iconst 1, 1) := by decide +kernel
theorem d_jdk_43_method_46_1 : decode jdk_43_method_46_code 1 = .ok (.newarray .byte, 2) := by decide +kernel
theorem d_jdk_43_method_46_3 : decode jdk_43_method_46_code 3 = .ok (.dup, 1) := by decide +kernel
theorem d_jdk_43_method_46_4 : decode jdk_43_method_46_code 4 = .ok (.iconst 0, 1) := by decide +kernel
theorem d_jdk_43_method_46_5 : decode jdk_43_method_46_code 5 = .ok (.iload_n 0, 1) := by decide +kernel
theorem d_jdk_43_method_46_6 : decode jdk_43_method_46_code 6 = .ok (.i2b, 1) := by decide +kernel
theorem d_jdk_43_method_46_7 : decode jdk_43_method_46_code 7 = .ok (.bastore, 1) := by decide +kernel
theorem d_jdk_43_method_46_8 : decode jdk_43_method_46_code 8 = .ok (.areturn, 1) := by decide +kernel
theorem d_jdk_42_method_151_0 : decode jdk_42_method_151_code 0 = .ok (.aload_n 0, 1) := by decide +kernel
theorem d_jdk_42_method_151_1 : decode jdk_42_method_151_code 1 = .ok (.invokespecial 1, 3) := by decide +kernel
theorem d_jdk_42_method_151_4 : decode jdk_42_method_151_code 4 = .ok (.aload_n 0, 1) := by decide +kernel
theorem d_jdk_42_method_151_5 : decode jdk_42_method_151_code 5 = .ok (.aload_n 1, 1) := by decide +kernel
theorem d_jdk_42_method_151_6 : decode jdk_42_method_151_code 6 = .ok (.putfield 9, 3) := by decide +kernel
theorem d_jdk_42_method_151_9 : decode jdk_42_method_151_code 9 = .ok (.aload_n 0, 1) := by decide +kernel
theorem d_jdk_42_method_151_10 : decode jdk_42_method_151_code 10 = .ok (.iload_n 2, 1) := by decide +kernel
theorem d_jdk_42_method_151_11 : decode jdk_42_method_151_code 11 = .ok (.putfield 15, 3) := by decide +kernel
theorem d_jdk_42_method_151_14 : decode jdk_42_method_151_code 14 = .ok (.return_, 1) := by decide +kernel
theorem pn_2 : plainName "java/lang/String" = true := by first | (simp [plainName, overriddenIn]; done) | decide +kernel
theorem d_jdk_42_method_139_0 : decode jdk_42_method_139_code 0 = .ok (.getstatic 38, 3) := by decide +kernel
theorem d_jdk_42_method_139_3 : decode jdk_42_method_139_code 3 = .ok (.ifCond .eq 23, 3) := by decide +kernel
theorem d_jdk_42_method_139_6 : decode jdk_42_method_139_code 6 = .ok (.iload_n 0, 1) := by decide +kernel
theorem d_jdk_42_method_139_7 : decode jdk_42_method_139_code 7 = .ok (.invokestatic 1015, 3) := by decide +kernel
theorem pd_0 : parseMethodDescriptor "(C)Z" = some ⟨[.char], some .boolean⟩ := by decide +kernel
theorem d_jdk_42_method_139_10 : decode jdk_42_method_139_code 10 = .ok (.ifCond .eq 16, 3) := by decide +kernel
theorem d_jdk_42_method_139_13 : decode jdk_42_method_139_code 13 = .ok (.new 10, 3) := by decide +kernel
theorem d_jdk_42_method_139_16 : decode jdk_42_method_139_code 16 = .ok (.dup, 1) := by decide +kernel
theorem d_jdk_42_method_139_17 : decode jdk_42_method_139_code 17 = .ok (.iload_n 0, 1) := by decide +kernel
theorem d_jdk_42_method_139_18 : decode jdk_42_method_139_code 18 = .ok (.invokestatic 1018, 3) := by decide +kernel
theorem pd_1 : parseMethodDescriptor "(C)[B" = some ⟨[.char], some (.array .byte)⟩ := by decide +kernel
theorem d_jdk_42_method_139_21 : decode jdk_42_method_139_code 21 = .ok (.iconst 0, 1) := by decide +kernel
theorem d_jdk_42_method_139_22 : decode jdk_42_method_139_code 22 = .ok (.invokespecial 209, 3) := by decide +kernel
theorem pd_2 : parseMethodDescriptor "([BB)V" = some ⟨[(.array .byte), .byte], none⟩ := by decide +kernel
theorem d_jdk_42_method_139_25 : decode jdk_42_method_139_code 25 = .ok (.areturn, 1) := by decide +kernel
theorem d_jdk_31_method_11_0 : decode jdk_31_method_11_code 0 = .ok (.aload_n 0, 1) := by decide +kernel
theorem d_jdk_31_method_11_1 : decode jdk_31_method_11_code 1 = .ok (.ifnonnull 12, 3) := by decide +kernel
theorem d_jdk_31_method_11_13 : decode jdk_31_method_11_code 13 = .ok (.aload_n 0, 1) := by decide +kernel
theorem d_jdk_31_method_11_14 : decode jdk_31_method_11_code 14 = .ok (.areturn, 1) := by decide +kernel
theorem pn_3 : plainName "java/util/Objects" = true := by first | (simp [plainName, overriddenIn]; done) | decide +kernel
theorem d_method_2_0 : decode method_2_code 0 = .ok (.iload_n 0, 1) := by decide +kernel
theorem d_method_2_1 : decode method_2_code 1 = .ok (.ifCond .ne 7, 3) := by decide +kernel
theorem d_method_2_4 : decode method_2_code 4 = .ok (.getstatic 7, 3) := by decide +kernel
theorem d_method_2_7 : decode method_2_code 7 = .ok (.areturn, 1) := by decide +kernel
theorem d_method_2_8 : decode method_2_code 8 = .ok (.iload_n 0, 1) := by decide +kernel
theorem d_method_2_9 : decode method_2_code 9 = .ok (.iconst 1, 1) := by decide +kernel
theorem d_method_2_10 : decode method_2_code 10 = .ok (.if_icmp .ne 7, 3) := by decide +kernel
theorem d_method_2_13 : decode method_2_code 13 = .ok (.getstatic 13, 3) := by decide +kernel
theorem d_method_2_16 : decode method_2_code 16 = .ok (.areturn, 1) := by decide +kernel
theorem d_method_2_17 : decode method_2_code 17 = .ok (.iload_n 0, 1) := by decide +kernel
theorem d_method_2_18 : decode method_2_code 18 = .ok (.iconst 2, 1) := by decide +kernel
theorem d_method_2_19 : decode method_2_code 19 = .ok (.if_icmp .ne 7, 3) := by decide +kernel
theorem d_method_2_22 : decode method_2_code 22 = .ok (.getstatic 16, 3) := by decide +kernel
theorem d_method_2_25 : decode method_2_code 25 = .ok (.areturn, 1) := by decide +kernel
theorem d_method_2_26 : decode method_2_code 26 = .ok (.iload_n 0, 1) := by decide +kernel
theorem d_method_2_27 : decode method_2_code 27 = .ok (.iconst 3, 1) := by decide +kernel
theorem d_method_2_28 : decode method_2_code 28 = .ok (.if_icmp .ne 7, 3) := by decide +kernel
theorem d_method_2_31 : decode method_2_code 31 = .ok (.getstatic 19, 3) := by decide +kernel
theorem d_method_2_34 : decode method_2_code 34 = .ok (.areturn, 1) := by decide +kernel
theorem d_method_2_35 : decode method_2_code 35 = .ok (.iload_n 0, 1) := by decide +kernel
theorem d_method_2_36 : decode method_2_code 36 = .ok (.iconst 4, 1) := by decide +kernel
theorem d_method_2_37 : decode method_2_code 37 = .ok (.if_icmp .ne 7, 3) := by decide +kernel
theorem d_method_2_40 : decode method_2_code 40 = .ok (.getstatic 22, 3) := by decide +kernel
theorem d_method_2_43 : decode method_2_code 43 = .ok (.areturn, 1) := by decide +kernel
theorem d_method_2_44 : decode method_2_code 44 = .ok (.iload_n 0, 1) := by decide +kernel
theorem d_method_2_45 : decode method_2_code 45 = .ok (.iconst 5, 1) := by decide +kernel
theorem d_method_2_46 : decode method_2_code 46 = .ok (.if_icmp .ne 7, 3) := by decide +kernel
theorem d_method_2_49 : decode method_2_code 49 = .ok (.getstatic 25, 3) := by decide +kernel
theorem d_method_2_52 : decode method_2_code 52 = .ok (.areturn, 1) := by decide +kernel
theorem d_method_2_53 : decode method_2_code 53 = .ok (.getstatic 28, 3) := by decide +kernel
theorem d_method_2_56 : decode method_2_code 56 = .ok (.areturn, 1) := by decide +kernel
theorem pn_4 : plainName "com/example/nasute/nasute/sql/EveryAtPinLaw" = true := by first | (simp [plainName, overriddenIn]; done) | decide +kernel
theorem d_prog_74_method_1_0 : decode prog_74_method_1_code 0 = .ok (.aload_n 0, 1) := by decide +kernel
theorem d_prog_74_method_1_1 : decode prog_74_method_1_code 1 = .ok (.invokespecial 1, 3) := by decide +kernel
theorem pd_3 : parseMethodDescriptor "()V" = some ⟨[], none⟩ := by decide +kernel
theorem d_prog_74_method_1_4 : decode prog_74_method_1_code 4 = .ok (.aload_n 2, 1) := by decide +kernel
theorem d_prog_74_method_1_5 : decode prog_74_method_1_code 5 = .ok (.ldc 7, 2) := by decide +kernel
theorem d_prog_74_method_1_7 : decode prog_74_method_1_code 7 = .ok (.invokestatic 9, 3) := by decide +kernel
theorem pd_4 : parseMethodDescriptor "(Ljava/lang/Object;Ljava/lang/String;)Ljava/lang/Object;" = some ⟨[(.object "java/lang/Object"), (.object "java/lang/String")], some (.object "java/lang/Object")⟩ := by decide +kernel
theorem d_prog_74_method_1_10 : decode prog_74_method_1_code 10 = .ok (.pop, 1) := by decide +kernel
theorem d_prog_74_method_1_11 : decode prog_74_method_1_code 11 = .ok (.aload_n 0, 1) := by decide +kernel
theorem d_prog_74_method_1_12 : decode prog_74_method_1_code 12 = .ok (.aload_n 1, 1) := by decide +kernel
theorem d_prog_74_method_1_13 : decode prog_74_method_1_code 13 = .ok (.putfield 15, 3) := by decide +kernel
theorem d_prog_74_method_1_16 : decode prog_74_method_1_code 16 = .ok (.aload_n 0, 1) := by decide +kernel
theorem d_prog_74_method_1_17 : decode prog_74_method_1_code 17 = .ok (.aload_n 2, 1) := by decide +kernel
theorem d_prog_74_method_1_18 : decode prog_74_method_1_code 18 = .ok (.putfield 21, 3) := by decide +kernel
theorem d_prog_74_method_1_21 : decode prog_74_method_1_code 21 = .ok (.return_, 1) := by decide +kernel
theorem pn_5 : plainName "com/example/nasute/nasute/sql/ObjectName" = true := by first | (simp [plainName, overriddenIn]; done) | decide +kernel
theorem d_prog_55_method_1_0 : decode prog_55_method_1_code 0 = .ok (.aload_n 0, 1) := by decide +kernel
theorem d_prog_55_method_1_1 : decode prog_55_method_1_code 1 = .ok (.invokespecial 1, 3) := by decide +kernel
theorem d_prog_55_method_1_4 : decode prog_55_method_1_code 4 = .ok (.aload_n 1, 1) := by decide +kernel
theorem d_prog_55_method_1_5 : decode prog_55_method_1_code 5 = .ok (.ldc 7, 2) := by decide +kernel
theorem d_prog_55_method_1_7 : decode prog_55_method_1_code 7 = .ok (.invokestatic 9, 3) := by decide +kernel
theorem d_prog_55_method_1_10 : decode prog_55_method_1_code 10 = .ok (.pop, 1) := by decide +kernel
theorem d_prog_55_method_1_11 : decode prog_55_method_1_code 11 = .ok (.aload_n 2, 1) := by decide +kernel
theorem d_prog_55_method_1_12 : decode prog_55_method_1_code 12 = .ok (.ldc 15, 2) := by decide +kernel
theorem d_prog_55_method_1_14 : decode prog_55_method_1_code 14 = .ok (.invokestatic 9, 3) := by decide +kernel
theorem d_prog_55_method_1_17 : decode prog_55_method_1_code 17 = .ok (.pop, 1) := by decide +kernel
theorem d_prog_55_method_1_18 : decode prog_55_method_1_code 18 = .ok (.aload_n 0, 1) := by decide +kernel
theorem d_prog_55_method_1_19 : decode prog_55_method_1_code 19 = .ok (.aload_n 1, 1) := by decide +kernel
theorem d_prog_55_method_1_20 : decode prog_55_method_1_code 20 = .ok (.putfield 17, 3) := by decide +kernel
theorem d_prog_55_method_1_23 : decode prog_55_method_1_code 23 = .ok (.aload_n 0, 1) := by decide +kernel
theorem d_prog_55_method_1_24 : decode prog_55_method_1_code 24 = .ok (.aload_n 2, 1) := by decide +kernel
theorem d_prog_55_method_1_25 : decode prog_55_method_1_code 25 = .ok (.putfield 22, 3) := by decide +kernel
theorem d_prog_55_method_1_28 : decode prog_55_method_1_code 28 = .ok (.aload_n 0, 1) := by decide +kernel
theorem d_prog_55_method_1_29 : decode prog_55_method_1_code 29 = .ok (.iload_n 3, 1) := by decide +kernel
theorem d_prog_55_method_1_30 : decode prog_55_method_1_code 30 = .ok (.putfield 25, 3) := by decide +kernel
theorem d_prog_55_method_1_33 : decode prog_55_method_1_code 33 = .ok (.return_, 1) := by decide +kernel
theorem pn_6 : plainName "com/example/nasute/nasute/sql/ColumnAccess$Every" = true := by first | (simp [plainName, overriddenIn]; done) | decide +kernel
theorem d_prog_55_method_2_0 : decode prog_55_method_2_code 0 = .ok (.new 18, 3) := by decide +kernel
theorem d_prog_55_method_2_3 : decode prog_55_method_2_code 3 = .ok (.dup, 1) := by decide +kernel
theorem d_prog_55_method_2_4 : decode prog_55_method_2_code 4 = .ok (.aload_n 0, 1) := by decide +kernel
theorem d_prog_55_method_2_5 : decode prog_55_method_2_code 5 = .ok (.getfield 17, 3) := by decide +kernel
theorem d_prog_55_method_2_8 : decode prog_55_method_2_code 8 = .ok (.aload_n 0, 1) := by decide +kernel
theorem d_prog_55_method_2_9 : decode prog_55_method_2_code 9 = .ok (.getfield 22, 3) := by decide +kernel
theorem d_prog_55_method_2_12 : decode prog_55_method_2_code 12 = .ok (.iload_n 1, 1) := by decide +kernel
theorem d_prog_55_method_2_13 : decode prog_55_method_2_code 13 = .ok (.invokespecial 29, 3) := by decide +kernel
theorem pd_5 : parseMethodDescriptor "(Lcom/example/nasute/nasute/sql/ObjectName;Lcom/example/nasute/nasute/sql/Operation;I)V" = some ⟨[(.object "com/example/nasute/nasute/sql/ObjectName"), (.object "com/example/nasute/nasute/sql/Operation"), .int], none⟩ := by decide +kernel
theorem d_prog_55_method_2_16 : decode prog_55_method_2_code 16 = .ok (.areturn, 1) := by decide +kernel
theorem d_prog_55_method_6_0 : decode prog_55_method_6_code 0 = .ok (.aload_n 0, 1) := by decide +kernel
theorem d_prog_55_method_6_1 : decode prog_55_method_6_code 1 = .ok (.getfield 17, 3) := by decide +kernel
theorem d_prog_55_method_6_4 : decode prog_55_method_6_code 4 = .ok (.areturn, 1) := by decide +kernel
theorem d_prog_55_method_7_0 : decode prog_55_method_7_code 0 = .ok (.aload_n 0, 1) := by decide +kernel
theorem d_prog_55_method_7_1 : decode prog_55_method_7_code 1 = .ok (.getfield 22, 3) := by decide +kernel
theorem d_prog_55_method_7_4 : decode prog_55_method_7_code 4 = .ok (.areturn, 1) := by decide +kernel
theorem d_prog_55_method_8_0 : decode prog_55_method_8_code 0 = .ok (.aload_n 0, 1) := by decide +kernel
theorem d_prog_55_method_8_1 : decode prog_55_method_8_code 1 = .ok (.getfield 25, 3) := by decide +kernel
theorem d_prog_55_method_8_4 : decode prog_55_method_8_code 4 = .ok (.ireturn, 1) := by decide +kernel
theorem pd_6 : parseMethodDescriptor "(I)Lcom/example/nasute/nasute/sql/Operation;" = some ⟨[.int], some (.object "com/example/nasute/nasute/sql/Operation")⟩ := by decide +kernel
theorem pd_7 : parseMethodDescriptor "([C)V" = some ⟨[(.array .char)], none⟩ := by decide +kernel
theorem pd_8 : parseMethodDescriptor "(Ljava/lang/String;Ljava/lang/String;)V" = some ⟨[(.object "java/lang/String"), (.object "java/lang/String")], none⟩ := by decide +kernel
theorem pd_9 : parseMethodDescriptor "(I)Lcom/example/nasute/nasute/sql/ColumnAccess$Every;" = some ⟨[.int], some (.object "com/example/nasute/nasute/sql/ColumnAccess$Every")⟩ := by decide +kernel
theorem pd_10 : parseMethodDescriptor "()Lcom/example/nasute/nasute/sql/ObjectName;" = some ⟨[], some (.object "com/example/nasute/nasute/sql/ObjectName")⟩ := by decide +kernel
theorem pd_11 : parseMethodDescriptor "()Lcom/example/nasute/nasute/sql/Operation;" = some ⟨[], some (.object "com/example/nasute/nasute/sql/Operation")⟩ := by decide +kernel
theorem pd_12 : parseMethodDescriptor "()I" = some ⟨[], some .int⟩ := by decide +kernel
theorem pd_13 : parseMethodDescriptor "(C)Ljava/lang/String;" = some ⟨[.char], some (.object "java/lang/String")⟩ := by decide +kernel
def QRec (Z : State) (a : Addr) (h0 : Heap) (n0 : Nat) (v : Option Value) (h : Heap) (L : List Loc) : Prop := v = none ∧ Fr n0 L ∧ h = h0
theorem ef_Rec (m : MethodId) (a : Addr) : entryFrame m #[(.ref a)] 1 = mkF m 0 #[.val (.ref a)] [] := by first | (simp [entryFrame, mkF, argsToLocals, Value.category]; done) | rfl | (rfl)
set_option maxRecDepth 65536 in
set_option maxHeartbeats 40000000 in
theorem rmRec (l : Launch) (Z : State) (a0 : Array Value) (hw : ∀ d ∈ tables_1, d.before a0 Z = true) (ws : List Jvm.Cond) (a : Addr) (h0 : Heap) (n0 : Nat) (O : Old Z n0 h0)  :
    MetFree l (⟨"java/lang/Record", "<init>", "()V"⟩ : MethodName) (head1 (Jvm.Cond.code (⟨"java/lang/Record", "<init>", "()V"⟩ : MethodName) jdk_30_method_1_code 1 none :: ws) ({ frames := 1, cells := 0, slots := 0, locals := 12 } : Room)) (fun as_ U => as_ = #[(.ref a)] ∧ Z.Warmed39 U.vm ∧ U.heap = h0) (fun _ _ _ _ _ => True) (fun _ U oo_ U' => ∃ vv_ LL_, oo_ = .returned vv_ ∧ QRec Z a h0 n0 vv_ U'.heap LL_ ∧ FrameEnd U oo_ U' LL_ ({ frames := 1, cells := 0, slots := 0, locals := 12 } : Room).cells ({ frames := 1, cells := 0, slots := 0, locals := 12 } : Room).slots) := by
  refine MetFree.of_bodySF (plainFor_of_name pn_0) hisR ?_
  intro p e s m args below meth c s₁ Bd hml0 hP hK
  obtain ⟨rfl, hZ, hh⟩ := hP
  have hx := Bd.exec
  have hby := Bd.bytes
  have hml : c.maxLocals = 1 := hml0
  have hown : s.vm.findClass "java/lang/Record" = some m.cls := findClass_of_methodNamed Bd.named
  have hnm := (name_of_methodNamed Bd.named Bd.method).1
  have X0 : Stand p l e ({ frames := 1, cells := 0, slots := 0, locals := 12 } : Room) s m #[(.ref a)] below meth c s₁ [] 0 0 := Stand.of_body Bd
  have e0 : s₁.heap = h0 := by rw [← hh, Bd.state]; rfl
  have N := Fr.nil n0
  have K : Keep h0 h0 [] := Keep.refl h0 _
  refine own_go (B := s₁.setTop (mkF m 0 #[.val (.ref a)] [])) (fun t k => castTop (ef_Rec m a) k) ?_
  refine own_abs (fun P hfin => ?_)
  refine own_go (B := s₁.setTop (mkF m 1 #[.val (.ref a)] [(.ref a)])) (fun t k => ?_) ?_
  · show Steps p.tables e below (s₁.setTop (mkF m 0 #[.val (.ref a)] [])) _
    refine XS.aloadN X0.here hx rfl (hb hby d_jdk_30_method_1_0) rfl rfl ?_
    show Steps p.tables e below (s₁.setTop (mkF m 1 #[.val (.ref a)] [(.ref a)])) _
    exact k
  obtain ⟨T1, X1, e1, st1⟩ := initO X0 hx hZ hown (hw _ (List.mem_of_getElem? (i := 63) rfl)) (hw _ (List.mem_of_getElem? (i := 20) rfl)) (hw _ (List.mem_of_getElem? (i := 21) rfl)) e0 (g := (mkF m 1 #[.val (.ref a)] [(.ref a)])) rfl (by rw [hml]; rfl) rfl (hb hby d_jdk_30_method_1_1) (by decide) (W := 0) (by show 2 * 0 + _ ≤ _; exact Nat.le_of_eq rfl) (by decide)
  refine own_go (B := T1.setTop (mkF m 4 #[.val (.ref a)] [])) st1 ?_
  obtain ⟨fs, hr, hrun, hended, hW, hsame⟩ := X1.leave (v := none) (fun _ => rfl)
  refine ⟨_, _, X1.returnOut hx Bd.returns (hb hby d_jdk_30_method_1_4) hr, hfin _ _ ⟨hrun, hended, _, _, rfl, ?_, ⟨_, rfl⟩, hW, hsame.mono (by decide) (by decide)⟩⟩
  show QRec Z a h0 n0 _ T1.heap _
  exact ⟨rfl, N, e1⟩
def QCan (Z : State) (cc : Int32) (h0 : Heap) (n0 : Nat) (v : Option Value) (h : Heap) (L : List Loc) : Prop := v = some (.int (1 : Int32)) ∧ Fr n0 L ∧ h = h0
theorem ef_Can (m : MethodId) (cc : Int32) : entryFrame m #[(.int cc)] 1 = mkF m 0 #[.val (.int cc)] [] := by first | (simp [entryFrame, mkF, argsToLocals, Value.category]; done) | rfl | (rfl)
set_option maxRecDepth 65536 in
set_option maxHeartbeats 40000000 in
theorem rmCan (l : Launch) (Z : State) (a0 : Array Value) (hw : ∀ d ∈ tables_1, d.before a0 Z = true) (ws : List Jvm.Cond) (cc : Int32) (h0 : Heap) (n0 : Nat) (O : Old Z n0 h0) (hc : ¬ (255 : Int32) < cc) :
    MetFree l (⟨"java/lang/StringLatin1", "canEncode", "(C)Z"⟩ : MethodName) (head1 (Jvm.Cond.code (⟨"java/lang/StringLatin1", "canEncode", "(C)Z"⟩ : MethodName) jdk_43_method_3_code 1 (some .boolean) :: ws) ({ frames := 0, cells := 0, slots := 0, locals := 0 } : Room)) (fun as_ U => as_ = #[(.int cc)] ∧ Z.Warmed39 U.vm ∧ U.heap = h0) (fun _ _ _ _ _ => True) (fun _ U oo_ U' => ∃ vv_ LL_, oo_ = .returned vv_ ∧ QCan Z cc h0 n0 vv_ U'.heap LL_ ∧ FrameEnd U oo_ U' LL_ ({ frames := 0, cells := 0, slots := 0, locals := 0 } : Room).cells ({ frames := 0, cells := 0, slots := 0, locals := 0 } : Room).slots) := by
  refine MetFree.of_bodySF (plainFor_of_name pn_1) hisR ?_
  intro p e s m args below meth c s₁ Bd hml0 hP hK
  obtain ⟨rfl, hZ, hh⟩ := hP
  have hx := Bd.exec
  have hby := Bd.bytes
  have hml : c.maxLocals = 1 := hml0
  have hown : s.vm.findClass "java/lang/StringLatin1" = some m.cls := findClass_of_methodNamed Bd.named
  have hnm := (name_of_methodNamed Bd.named Bd.method).1
  have X0 : Stand p l e ({ frames := 0, cells := 0, slots := 0, locals := 0 } : Room) s m #[(.int cc)] below meth c s₁ [] 0 0 := Stand.of_body Bd
  have e0 : s₁.heap = h0 := by rw [← hh, Bd.state]; rfl
  have N := Fr.nil n0
  have K : Keep h0 h0 [] := Keep.refl h0 _
  refine own_go (B := s₁.setTop (mkF m 0 #[.val (.int cc)] [])) (fun t k => castTop (ef_Can m cc) k) ?_
  refine own_abs (fun P hfin => ?_)
  refine own_go (B := s₁.setTop (mkF m 12 #[.val (.int cc)] [(.int (1 : Int32))])) (fun t k => ?_) ?_
  · show Steps p.tables e below (s₁.setTop (mkF m 0 #[.val (.int cc)] [])) _
    refine XS.iloadN X0.here hx rfl (hb hby d_jdk_43_method_3_0) rfl ?_
    show Steps p.tables e below (s₁.setTop (mkF m 1 #[.val (.int cc)] [(.int cc)])) _
    refine XS.sipush X0.here hx rfl (hb hby d_jdk_43_method_3_1) ?_
    show Steps p.tables e below (s₁.setTop (mkF m 4 #[.val (.int cc)] [(.int (255 : Int32)), (.int cc)])) _
    refine XS.icmpNo X0.here hx rfl (hb hby d_jdk_43_method_3_4) rfl (flt hc).2.2.1 ?_
    show Steps p.tables e below (s₁.setTop (mkF m 7 #[.val (.int cc)] [])) _
    refine XS.iconst X0.here hx rfl (hb hby d_jdk_43_method_3_7) ?_
    show Steps p.tables e below (s₁.setTop (mkF m 8 #[.val (.int cc)] [(.int (1 : Int32))])) _
    refine XS.goto X0.here hx rfl (pc0 := 8) (pc' := 12) rfl (hb hby d_jdk_43_method_3_8) (by decide) (by decide) ?_
    show Steps p.tables e below (s₁.setTop (mkF m 12 #[.val (.int cc)] [(.int (1 : Int32))])) _
    exact k
  obtain ⟨fs, hr, hrun, hended, hW, hsame⟩ := X0.leave (v := some (.int (1 : Int32))) (fun h => by rw [Bd.returns] at h; cases h)
  refine ⟨_, _, retN X0 hx (t := .boolean) Bd.returns (by simp) (hb hby d_jdk_43_method_3_12) hr, hfin _ _ ⟨hrun, hended, _, _, rfl, ?_, ⟨_, rfl⟩, hW, hsame.mono (by decide) (by decide)⟩⟩
  show QCan Z cc h0 n0 _ s₁.heap _
  exact ⟨rfl, N, e0⟩
def QToB (Z : State) (cc : Int32) (h0 : Heap) (n0 : Nat) (v : Option Value) (h : Heap) (L : List Loc) : Prop := ∃ r : Addr, ∃ k : ClassId, v = some (.ref r) ∧ Fr n0 L ∧ Keep h0 h [] ∧ h0.size ≤ r ∧ Arv Z h r k .byte (1 : Int32) (own_bs [cc]) (.int (0 : Int32))
theorem ef_ToB (m : MethodId) (cc : Int32) : entryFrame m #[(.int cc)] 1 = mkF m 0 #[.val (.int cc)] [] := by first | (simp [entryFrame, mkF, argsToLocals, Value.category]; done) | rfl | (rfl)
set_option maxRecDepth 65536 in
set_option maxHeartbeats 40000000 in
theorem rmToB (l : Launch) (Z : State) (a0 : Array Value) (hw : ∀ d ∈ tables_1, d.before a0 Z = true) (ws : List Jvm.Cond) (cc : Int32) (h0 : Heap) (n0 : Nat) (O : Old Z n0 h0)  :
    MetFree l (⟨"java/lang/StringLatin1", "toBytes", "(C)[B"⟩ : MethodName) (head1 (Jvm.Cond.code (⟨"java/lang/StringLatin1", "toBytes", "(C)[B"⟩ : MethodName) jdk_43_method_46_code 1 (some (.array .byte)) :: ws) ({ frames := 0, cells := 1, slots := 1, locals := 0 } : Room)) (fun as_ U => as_ = #[(.int cc)] ∧ Z.Warmed39 U.vm ∧ U.heap = h0) (fun _ _ _ _ _ => True) (fun _ U oo_ U' => ∃ vv_ LL_, oo_ = .returned vv_ ∧ QToB Z cc h0 n0 vv_ U'.heap LL_ ∧ FrameEnd U oo_ U' LL_ ({ frames := 0, cells := 1, slots := 1, locals := 0 } : Room).cells ({ frames := 0, cells := 1, slots := 1, locals := 0 } : Room).slots) := by
  refine MetFree.of_bodySF (plainFor_of_name pn_1) hisR ?_
  intro p e s m args below meth c s₁ Bd hml0 hP hK
  obtain ⟨rfl, hZ, hh⟩ := hP
  have hx := Bd.exec
  have hby := Bd.bytes
  have hml : c.maxLocals = 1 := hml0
  have hown : s.vm.findClass "java/lang/StringLatin1" = some m.cls := findClass_of_methodNamed Bd.named
  have hnm := (name_of_methodNamed Bd.named Bd.method).1
  have X0 : Stand p l e ({ frames := 0, cells := 1, slots := 1, locals := 0 } : Room) s m #[(.int cc)] below meth c s₁ [] 0 0 := Stand.of_body Bd
  have e0 : s₁.heap = h0 := by rw [← hh, Bd.state]; rfl
  have N := Fr.nil n0
  have K : Keep h0 h0 [] := Keep.refl h0 _
  refine own_go (B := s₁.setTop (mkF m 0 #[.val (.int cc)] [])) (fun t k => castTop (ef_ToB m cc) k) ?_
  refine own_abs (fun P hfin => ?_)
  refine own_go (B := s₁.setTop (mkF m 1 #[.val (.int cc)] [(.int (1 : Int32))])) (fun t k => ?_) ?_
  · show Steps p.tables e below (s₁.setTop (mkF m 0 #[.val (.int cc)] [])) _
    refine XS.iconst X0.here hx rfl (hb hby d_jdk_43_method_46_0) ?_
    show Steps p.tables e below (s₁.setTop (mkF m 1 #[.val (.int cc)] [(.int (1 : Int32))])) _
    exact k
  obtain ⟨T1, h1, k1, X1, e1, E1, A1, G1, st1⟩ := newPE X0 hx hZ (hw _ (List.mem_of_getElem? (i := 27) rfl)) e0 (g := (mkF m 1 #[.val (.int cc)] [(.int (1 : Int32))])) rfl (hb hby d_jdk_43_method_46_1) rfl (by decide) (cap := 1) (by decide) (by decide) (by decide) (by decide) (ad := "[B") (by decide)
  obtain ⟨b1, g1⟩ : ∃ z, z = h0.size := ⟨_, rfl⟩
  rw [← g1] at A1 G1 st1
  have g_b1 : n0 ≤ b1 := Nat.le_trans (own_oldsz O) (Nat.le_of_eq g1.symm)
  have s_b1 : h0.size ≤ b1 := Nat.le_trans K.1 (Nat.le_of_eq g1.symm)
  replace O := O.ext E1
  replace K := K.ext E1
  have V1 : Arv Z h1 b1 k1 .byte (1 : Int32) [(.int (0 : Int32))] (.int (0 : Int32)) := (Arv.new A1 (by decide)).pad (pad_rep [] (.int (0 : Int32)) 1)
  refine own_go (B := T1.setTop (mkF m 3 #[.val (.int cc)] [(.ref b1)])) st1 ?_
  refine own_go (B := T1.setTop (mkF m 7 #[.val (.int cc)] [(.int (cc.toInt8.toInt32)), (.int (0 : Int32)), (.ref b1), (.ref b1)])) (fun t k => ?_) ?_
  · show Steps p.tables e below (T1.setTop (mkF m 3 #[.val (.int cc)] [(.ref b1)])) _
    refine XS.dup X1.here hx rfl (hb hby d_jdk_43_method_46_3) rfl rfl ?_
    show Steps p.tables e below (T1.setTop (mkF m 4 #[.val (.int cc)] [(.ref b1), (.ref b1)])) _
    refine XS.iconst X1.here hx rfl (hb hby d_jdk_43_method_46_4) ?_
    show Steps p.tables e below (T1.setTop (mkF m 5 #[.val (.int cc)] [(.int (0 : Int32)), (.ref b1), (.ref b1)])) _
    refine XS.iloadN X1.here hx rfl (hb hby d_jdk_43_method_46_5) rfl ?_
    show Steps p.tables e below (T1.setTop (mkF m 6 #[.val (.int cc)] [(.int cc), (.int (0 : Int32)), (.ref b1), (.ref b1)])) _
    refine XS.i2b X1.here hx rfl (hb hby d_jdk_43_method_46_6) rfl ?_
    show Steps p.tables e below (T1.setTop (mkF m 7 #[.val (.int cc)] [(.int (cc.toInt8.toInt32)), (.int (0 : Int32)), (.ref b1), (.ref b1)])) _
    exact k
  obtain ⟨cl2, Ar2, q2, Sz2, Nn2, Hs2, Gt2⟩ := V1
  have hin2 : ¬ ((0 : Int32) < 0 ∨ cl2.slots.size ≤ ((0 : Int32)).toNatClampNeg) := inb_of Sz2 ⟨by decide, by decide⟩
  obtain ⟨T2, h2, X2, e2, W2, st2⟩ := stB X1 hx hZ e1 Ar2 (j := (0 : Int32)) hin2 (g := (mkF m 7 #[.val (.int cc)] [(.int (cc.toInt8.toInt32)), (.int (0 : Int32)), (.ref b1), (.ref b1)])) rfl rfl (hb hby d_jdk_43_method_46_7)
  have V2 := Arv.set Ar2 q2 Sz2 Nn2 Hs2 Gt2 (fits_nar_byte _) W2 0 rfl (Nat.le_of_ble_eq_true rfl)
  rw [own_nb2] at V2
  have V2 : Arv Z h2 b1 k1 .byte (1 : Int32) [(.int cc.toInt8.toInt32)] (.int (0 : Int32)) := V2
  replace G1 := G1.wr W2
  replace O := O.wr W2 g_b1
  replace K := K.wr W2 (Or.inr s_b1)
  replace N := Fr.snoc X2 N g_b1
  refine own_go (B := T2.setTop (mkF m 8 #[.val (.int cc)] [(.ref b1)])) st2 ?_
  obtain ⟨fs, hr, hrun, hended, hW, hsame⟩ := X2.leave (v := some (.ref b1)) (fun h => by rw [Bd.returns] at h; cases h)
  refine ⟨_, _, own_retA X2 hx rfl Bd.returns rfl (hb hby d_jdk_43_method_46_8) hr, hfin _ _ ⟨hrun, hended, _, _, rfl, ?_, ⟨_, rfl⟩, hW, hsame.mono (by decide) (by decide)⟩⟩
  show QToB Z cc h0 n0 _ T2.heap _
  rw [e2]
  exact ⟨b1, k1, rfl, N, K, s_b1, V2⟩
def QSBB (Z : State) (a : Addr) (b : Addr) (h0 : Heap) (n0 : Nat) (v : Option Value) (h : Heap) (L : List Loc) : Prop := v = none ∧ Fr n0 L ∧ Keep h0 h [a] ∧ Fld Z h a "java/lang/String" "value" "[B" (.ref b) ∧ Fld Z h a "java/lang/String" "coder" "B" (.int (0 : Int32))
theorem ef_SBB (m : MethodId) (a : Addr) (b : Addr) : entryFrame m #[(.ref a), (.ref b), (.int (0 : Int32))] 3 = mkF m 0 #[.val (.ref a), .val (.ref b), .val (.int (0 : Int32))] [] := by first | (simp [entryFrame, mkF, argsToLocals, Value.category]; done) | rfl | (rfl)
set_option maxRecDepth 65536 in
set_option maxHeartbeats 40000000 in
theorem rmSBB (l : Launch) (Z : State) (a0 : Array Value) (hw : ∀ d ∈ tables_1, d.before a0 Z = true) (ws : List Jvm.Cond) (a : Addr) (b : Addr) (h0 : Heap) (n0 : Nat) (O : Old Z n0 h0) (E : Exa Z h0 a "java/lang/String") (F1 : Fld Z h0 a "java/lang/String" "value" "[B" .null) (F2 : Fld Z h0 a "java/lang/String" "coder" "B" (.int (0 : Int32))) (ga : n0 ≤ a) :
    MetFree l (⟨"java/lang/String", "<init>", "([BB)V"⟩ : MethodName) (head1 (Jvm.Cond.code (⟨"java/lang/String", "<init>", "([BB)V"⟩ : MethodName) jdk_42_method_151_code 3 none :: ws) ({ frames := 1, cells := 0, slots := 0, locals := 12 } : Room)) (fun as_ U => as_ = #[(.ref a), (.ref b), (.int (0 : Int32))] ∧ Z.Warmed39 U.vm ∧ U.heap = h0) (fun _ _ _ _ _ => True) (fun _ U oo_ U' => ∃ vv_ LL_, oo_ = .returned vv_ ∧ QSBB Z a b h0 n0 vv_ U'.heap LL_ ∧ FrameEnd U oo_ U' LL_ ({ frames := 1, cells := 0, slots := 0, locals := 12 } : Room).cells ({ frames := 1, cells := 0, slots := 0, locals := 12 } : Room).slots) := by
  refine MetFree.of_bodySF (plainFor_of_name pn_2) hisR ?_
  intro p e s m args below meth c s₁ Bd hml0 hP hK
  obtain ⟨rfl, hZ, hh⟩ := hP
  have hx := Bd.exec
  have hby := Bd.bytes
  have hml : c.maxLocals = 3 := hml0
  have hown : s.vm.findClass "java/lang/String" = some m.cls := findClass_of_methodNamed Bd.named
  have hnm := (name_of_methodNamed Bd.named Bd.method).1
  have X0 : Stand p l e ({ frames := 1, cells := 0, slots := 0, locals := 12 } : Room) s m #[(.ref a), (.ref b), (.int (0 : Int32))] below meth c s₁ [] 0 0 := Stand.of_body Bd
  have e0 : s₁.heap = h0 := by rw [← hh, Bd.state]; rfl
  have N := Fr.nil n0
  have K : Keep h0 h0 [a] := Keep.refl h0 _
  refine own_go (B := s₁.setTop (mkF m 0 #[.val (.ref a), .val (.ref b), .val (.int (0 : Int32))] [])) (fun t k => castTop (ef_SBB m a b) k) ?_
  refine own_abs (fun P hfin => ?_)
  refine own_go (B := s₁.setTop (mkF m 1 #[.val (.ref a), .val (.ref b), .val (.int (0 : Int32))] [(.ref a)])) (fun t k => ?_) ?_
  · show Steps p.tables e below (s₁.setTop (mkF m 0 #[.val (.ref a), .val (.ref b), .val (.int (0 : Int32))] [])) _
    refine XS.aloadN X0.here hx rfl (hb hby d_jdk_42_method_151_0) rfl rfl ?_
    show Steps p.tables e below (s₁.setTop (mkF m 1 #[.val (.ref a), .val (.ref b), .val (.int (0 : Int32))] [(.ref a)])) _
    exact k
  obtain ⟨T1, X1, e1, st1⟩ := initO X0 hx hZ hown (hw _ (List.mem_of_getElem? (i := 19) rfl)) (hw _ (List.mem_of_getElem? (i := 20) rfl)) (hw _ (List.mem_of_getElem? (i := 21) rfl)) e0 (g := (mkF m 1 #[.val (.ref a), .val (.ref b), .val (.int (0 : Int32))] [(.ref a)])) rfl (by rw [hml]; rfl) rfl (hb hby d_jdk_42_method_151_1) (by decide) (W := 0) (by show 2 * 0 + _ ≤ _; exact Nat.le_of_eq rfl) (by decide)
  refine own_go (B := T1.setTop (mkF m 4 #[.val (.ref a), .val (.ref b), .val (.int (0 : Int32))] [])) st1 ?_
  refine own_go (B := T1.setTop (mkF m 6 #[.val (.ref a), .val (.ref b), .val (.int (0 : Int32))] [(.ref b), (.ref a)])) (fun t k => ?_) ?_
  · show Steps p.tables e below (T1.setTop (mkF m 4 #[.val (.ref a), .val (.ref b), .val (.int (0 : Int32))] [])) _
    refine XS.aloadN X1.here hx rfl (hb hby d_jdk_42_method_151_4) rfl rfl ?_
    show Steps p.tables e below (T1.setTop (mkF m 5 #[.val (.ref a), .val (.ref b), .val (.int (0 : Int32))] [(.ref a)])) _
    refine XS.aloadN X1.here hx rfl (hb hby d_jdk_42_method_151_5) rfl rfl ?_
    show Steps p.tables e below (T1.setTop (mkF m 6 #[.val (.ref a), .val (.ref b), .val (.int (0 : Int32))] [(.ref b), (.ref a)])) _
    exact k
  obtain ⟨T2, h2, X2, e2, W2, st2⟩ := putF X1 hx hZ hown (host := "") (Or.inl (hw _ (List.mem_of_getElem? (i := 36) rfl))) Via.refl e1 F1 E (Or.inr ⟨(hw _ (List.mem_of_getElem? (i := 37) rfl)), rfl, hnm⟩) (hw _ (List.mem_of_getElem? (i := 10) rfl)) (ty := (.array .byte)) (by decide) rfl rfl (g := (mkF m 6 #[.val (.ref a), .val (.ref b), .val (.int (0 : Int32))] [(.ref b), (.ref a)])) rfl rfl (hb hby d_jdk_42_method_151_6)
  have Fw2 := F1.same W2
  replace E := E.wr W2
  clear F1
  replace F2 := F2.other W2 (Or.inr (slot_ne (Or.inr (hw _ (List.mem_of_getElem? (i := 35) rfl))) (Or.inr (hw _ (List.mem_of_getElem? (i := 37) rfl))) (by decide) (t := .byte) (t' := (.array .byte)) (by decide) (by decide)))
  replace O := O.wr W2 ga
  replace K := K.wr W2 (Or.inl (List.mem_of_getElem? (i := 0) rfl))
  replace N := Fr.snoc X2 N ga
  refine own_go (B := T2.setTop (mkF m 9 #[.val (.ref a), .val (.ref b), .val (.int (0 : Int32))] [])) st2 ?_
  refine own_go (B := T2.setTop (mkF m 11 #[.val (.ref a), .val (.ref b), .val (.int (0 : Int32))] [(.int (0 : Int32)), (.ref a)])) (fun t k => ?_) ?_
  · show Steps p.tables e below (T2.setTop (mkF m 9 #[.val (.ref a), .val (.ref b), .val (.int (0 : Int32))] [])) _
    refine XS.aloadN X2.here hx rfl (hb hby d_jdk_42_method_151_9) rfl rfl ?_
    show Steps p.tables e below (T2.setTop (mkF m 10 #[.val (.ref a), .val (.ref b), .val (.int (0 : Int32))] [(.ref a)])) _
    refine XS.iloadN X2.here hx rfl (hb hby d_jdk_42_method_151_10) rfl ?_
    show Steps p.tables e below (T2.setTop (mkF m 11 #[.val (.ref a), .val (.ref b), .val (.int (0 : Int32))] [(.int (0 : Int32)), (.ref a)])) _
    exact k
  obtain ⟨T3, h3, X3, e3, W3, st3⟩ := putFN X2 hx hZ hown (hw _ (List.mem_of_getElem? (i := 34) rfl)) Via.refl e2 F2 E (Or.inr ⟨(hw _ (List.mem_of_getElem? (i := 35) rfl)), rfl, hnm⟩) (hw _ (List.mem_of_getElem? (i := 10) rfl)) (ty := .byte) (v' := (.int (0 : Int32))) (by decide) rfl rfl (g := (mkF m 11 #[.val (.ref a), .val (.ref b), .val (.int (0 : Int32))] [(.int (0 : Int32)), (.ref a)])) rfl rfl (hb hby d_jdk_42_method_151_11)
  have Fw3 := F2.same W3
  replace E := E.wr W3
  clear F2
  replace Fw2 := Fw2.other W3 (Or.inr (slot_ne (Or.inr (hw _ (List.mem_of_getElem? (i := 37) rfl))) (Or.inr (hw _ (List.mem_of_getElem? (i := 35) rfl))) (by decide) (t := (.array .byte)) (t' := .byte) (by decide) (by decide)))
  replace O := O.wr W3 ga
  replace K := K.wr W3 (Or.inl (List.mem_of_getElem? (i := 0) rfl))
  replace N := Fr.snoc X3 N ga
  refine own_go (B := T3.setTop (mkF m 14 #[.val (.ref a), .val (.ref b), .val (.int (0 : Int32))] [])) st3 ?_
  obtain ⟨fs, hr, hrun, hended, hW, hsame⟩ := X3.leave (v := none) (fun _ => rfl)
  refine ⟨_, _, X3.returnOut hx Bd.returns (hb hby d_jdk_42_method_151_14) hr, hfin _ _ ⟨hrun, hended, _, _, rfl, ?_, ⟨_, rfl⟩, hW, hsame.mono (by decide) (by decide)⟩⟩
  show QSBB Z a b h0 n0 _ T3.heap _
  rw [e3]
  exact ⟨rfl, N, K, Fw2, Fw3⟩
def QVO (Z : State) (cc : Int32) (zc : Int32) (h0 : Heap) (n0 : Nat) (v : Option Value) (h : Heap) (L : List Loc) : Prop := ∃ r : Addr, ∃ t : Addr, ∃ k : ClassId, v = some (.ref r) ∧ Fr n0 L ∧ Keep h0 h [] ∧ h0.size ≤ r ∧ h0.size ≤ t ∧ Exa Z h r "java/lang/String" ∧ Fld Z h r "java/lang/String" "coder" "B" (.int (0 : Int32)) ∧ Fld Z h r "java/lang/String" "value" "[B" (.ref t) ∧ Arv Z h t k .byte (1 : Int32) (own_bs [cc]) (.int (0 : Int32))
theorem ef_VO (m : MethodId) (cc : Int32) : entryFrame m #[(.int cc)] 1 = mkF m 0 #[.val (.int cc)] [] := by first | (simp [entryFrame, mkF, argsToLocals, Value.category]; done) | rfl | (rfl)
set_option maxRecDepth 65536 in
set_option maxHeartbeats 40000000 in
theorem rmVO (l : Launch) (Z : State) (a0 : Array Value) (hw : ∀ d ∈ tables_1, d.before a0 Z = true) (ws : List Jvm.Cond) (cc : Int32) (zc : Int32) (h0 : Heap) (n0 : Nat) (O : Old Z n0 h0) (S_C : Sta Z Z.heap "java/lang/String" "COMPACT_STRINGS" "Z" (.int zc)) (hc : ¬ (255 : Int32) < cc) (hcs : ¬ zc = (0 : Int32)) :
    MetFree l (⟨"java/lang/String", "valueOf", "(C)Ljava/lang/String;"⟩ : MethodName) (head1 (Jvm.Cond.code (⟨"java/lang/String", "valueOf", "(C)Ljava/lang/String;"⟩ : MethodName) jdk_42_method_139_code 1 (some (.object "java/lang/String")) :: ws) ({ frames := 2, cells := 2, slots := 5, locals := 27 } : Room)) (fun as_ U => as_ = #[(.int cc)] ∧ Z.Warmed39 U.vm ∧ U.heap = h0) (fun _ _ _ _ _ => True) (fun _ U oo_ U' => ∃ vv_ LL_, oo_ = .returned vv_ ∧ QVO Z cc zc h0 n0 vv_ U'.heap LL_ ∧ FrameEnd U oo_ U' LL_ ({ frames := 2, cells := 2, slots := 5, locals := 27 } : Room).cells ({ frames := 2, cells := 2, slots := 5, locals := 27 } : Room).slots) := by
  refine MetFree.of_bodySF (plainFor_of_name pn_2) hisR ?_
  intro p e s m args below meth c s₁ Bd hml0 hP hK
  obtain ⟨rfl, hZ, hh⟩ := hP
  have hx := Bd.exec
  have hby := Bd.bytes
  have hml : c.maxLocals = 1 := hml0
  have hown : s.vm.findClass "java/lang/String" = some m.cls := findClass_of_methodNamed Bd.named
  have hnm := (name_of_methodNamed Bd.named Bd.method).1
  have X0 : Stand p l e ({ frames := 2, cells := 2, slots := 5, locals := 27 } : Room) s m #[(.int cc)] below meth c s₁ [] 0 0 := Stand.of_body Bd
  have e0 : s₁.heap = h0 := by rw [← hh, Bd.state]; rfl
  have N := Fr.nil n0
  have K : Keep h0 h0 [] := Keep.refl h0 _
  refine own_go (B := s₁.setTop (mkF m 0 #[.val (.int cc)] [])) (fun t k => castTop (ef_VO m cc) k) ?_
  refine own_abs (fun P hfin => ?_)
  obtain ⟨T1, X1, e1, st1⟩ := getS2 X0 hx hZ hown (host := "") (Or.inl (hw _ (List.mem_of_getElem? (i := 22) rfl))) Via.refl e0 (S_C.ext O.2) (g := (mkF m 0 #[.val (.int cc)] [])) rfl (hb hby d_jdk_42_method_139_0)
  refine own_go (B := T1.setTop (mkF m 3 #[.val (.int cc)] [(.int zc)])) st1 ?_
  refine own_go (B := T1.setTop (mkF m 7 #[.val (.int cc)] [(.int cc)])) (fun t k => ?_) ?_
  · show Steps p.tables e below (T1.setTop (mkF m 3 #[.val (.int cc)] [(.int zc)])) _
    refine XS.ifNo X1.here hx rfl (hb hby d_jdk_42_method_139_3) rfl ((if0 _ _).trans (feq hcs).1) ?_
    show Steps p.tables e below (T1.setTop (mkF m 6 #[.val (.int cc)] [])) _
    refine XS.iloadN X1.here hx rfl (hb hby d_jdk_42_method_139_6) rfl ?_
    show Steps p.tables e below (T1.setTop (mkF m 7 #[.val (.int cc)] [(.int cc)])) _
    exact k
  -- pc 7: java/lang/StringLatin1.canEncode
  obtain ⟨_, _, ⟨T2, L2, k2, n2⟩, -, X2, ⟨Lc2, hQ2, l2, y2, z2⟩, st2⟩ := Jvm.LawKit.callS X1 hx (y := (⟨"java/lang/StringLatin1", "canEncode", "(C)Z"⟩ : MethodName)) hown (mvT hZ (hw _ (List.mem_of_getElem? (i := 41) rfl))) (mvT hZ (hw _ (List.mem_of_getElem? (i := 42) rfl))) (mvT hZ (hw _ (List.mem_of_getElem? (i := 43) rfl))) (mvT hZ (hw _ (List.mem_of_getElem? (i := 44) rfl))) (by decide) (backOf (W := 0) (rmCan l Z a0 hw [] cc h0 n0 O hc) hZ (hw _ (List.mem_of_getElem? (i := 44) rfl)) (hw _ (List.mem_of_getElem? (i := 43) rfl)) (by decide) (by decide)) (g := (mkF m 7 #[.val (.int cc)] [(.int cc)])) rfl (by rw [hml]; rfl) (argsL := [(.int cc)]) (rest := []) (lenOf pd_0 rfl) rfl (by show 2 * 0 + _ ≤ _; exact Nat.le_of_eq rfl) (hb hby d_jdk_42_method_139_7) (fun _ hWm => ⟨rfl, e1, (by decide : 0 + 0 ≤ _), (by decide : 0 + 0 ≤ _)⟩)
  dsimp only [Pt.U, Pt.locs, Pt.cells, Pt.slots] at X2 l2 y2 z2 st2 hQ2
  subst l2 y2 z2
  obtain ⟨rfl, Nq2, Kq2⟩ := hQ2
  replace N := Fr.app N Nq2
  refine own_go (B := T2.setTop (mkF m 10 #[.val (.int cc)] [(.int (1 : Int32))])) st2 ?_
  refine own_go (B := T2.setTop (mkF m 13 #[.val (.int cc)] [])) (fun t k => ?_) ?_
  · show Steps p.tables e below (T2.setTop (mkF m 10 #[.val (.int cc)] [(.int (1 : Int32))])) _
    refine XS.ifNo X2.here hx rfl (hb hby d_jdk_42_method_139_10) rfl ((if0 _ _).trans (feq (by decide)).1) ?_
    show Steps p.tables e below (T2.setTop (mkF m 13 #[.val (.int cc)] [])) _
    exact k
  obtain ⟨T3, h3, X3, e3, E3, A3, D3, -, st3⟩ := newO X2 hx hZ hown (hw _ (List.mem_of_getElem? (i := 45) rfl)) (hw _ (List.mem_of_getElem? (i := 10) rfl)) (hw _ (List.mem_of_getElem? (i := 11) rfl)) Kq2 (g := (mkF m 13 #[.val (.int cc)] [])) rfl (hb hby d_jdk_42_method_139_13) (by decide) (by decide)
  obtain ⟨b3, g3⟩ : ∃ z, z = h0.size := ⟨_, rfl⟩
  rw [← g3] at A3 D3 st3
  have g_b3 : n0 ≤ b3 := Nat.le_trans (own_oldsz O) (Nat.le_of_eq g3.symm)
  have s_b3 : h0.size ≤ b3 := Nat.le_trans K.1 (Nat.le_of_eq g3.symm)
  replace O := O.ext E3
  replace K := K.ext E3
  have F3_coder : Fld Z h3 b3 "java/lang/String" "coder" "B" (.int (0 : Int32)) := D3 (Or.inr (hw _ (List.mem_of_getElem? (i := 35) rfl))) (ty := .byte) (by decide)
  have F3_value : Fld Z h3 b3 "java/lang/String" "value" "[B" .null := D3 (Or.inr (hw _ (List.mem_of_getElem? (i := 37) rfl))) (ty := (.array .byte)) (by decide)
  refine own_go (B := T3.setTop (mkF m 16 #[.val (.int cc)] [(.ref b3)])) st3 ?_
  refine own_go (B := T3.setTop (mkF m 18 #[.val (.int cc)] [(.int cc), (.ref b3), (.ref b3)])) (fun t k => ?_) ?_
  · show Steps p.tables e below (T3.setTop (mkF m 16 #[.val (.int cc)] [(.ref b3)])) _
    refine XS.dup X3.here hx rfl (hb hby d_jdk_42_method_139_16) rfl rfl ?_
    show Steps p.tables e below (T3.setTop (mkF m 17 #[.val (.int cc)] [(.ref b3), (.ref b3)])) _
    refine XS.iloadN X3.here hx rfl (hb hby d_jdk_42_method_139_17) rfl ?_
    show Steps p.tables e below (T3.setTop (mkF m 18 #[.val (.int cc)] [(.int cc), (.ref b3), (.ref b3)])) _
    exact k
  -- pc 18: java/lang/StringLatin1.toBytes
  obtain ⟨_, _, ⟨T4, L4, k4, n4⟩, -, X4, ⟨Lc4, hQ4, l4, y4, z4⟩, st4⟩ := Jvm.LawKit.callS X3 hx (y := (⟨"java/lang/StringLatin1", "toBytes", "(C)[B"⟩ : MethodName)) hown (mvT hZ (hw _ (List.mem_of_getElem? (i := 46) rfl))) (mvT hZ (hw _ (List.mem_of_getElem? (i := 47) rfl))) (mvT hZ (hw _ (List.mem_of_getElem? (i := 43) rfl))) (mvT hZ (hw _ (List.mem_of_getElem? (i := 48) rfl))) (by decide) (backOf (W := 2) (rmToB l Z a0 hw [] cc h3 n0 O ) hZ (hw _ (List.mem_of_getElem? (i := 48) rfl)) (hw _ (List.mem_of_getElem? (i := 43) rfl)) (by decide) (by decide)) (g := (mkF m 18 #[.val (.int cc)] [(.int cc), (.ref b3), (.ref b3)])) rfl (by rw [hml]; rfl) (argsL := [(.int cc)]) (rest := [(.ref b3), (.ref b3)]) (lenOf pd_1 rfl) rfl (by show 2 * 0 + _ ≤ _; exact Nat.le_of_eq rfl) (hb hby d_jdk_42_method_139_18) (fun _ hWm => ⟨rfl, e3, (by decide : 1 + 1 ≤ _), (by decide : 4 + 1 ≤ _)⟩)
  dsimp only [Pt.U, Pt.locs, Pt.cells, Pt.slots] at X4 l4 y4 z4 st4 hQ4
  subst l4 y4 z4
  obtain ⟨r4, k4, rfl, Nq4, Kq4, fq4_r, Gq4_0⟩ := hQ4
  replace N := Fr.app N Nq4
  have lt_b3_r4 : b3 < r4 := Nat.lt_of_lt_of_le A3.lt fq4_r
  have g_r4 : n0 ≤ r4 := Nat.le_trans (own_oldsz O) fq4_r
  have s_r4 : h0.size ≤ r4 := Nat.le_trans K.1 fq4_r
  replace A3 := A3.keep Kq4
  replace F3_coder := F3_coder.keep Kq4 nin0
  replace F3_value := F3_value.keep Kq4 nin0
  replace O := O.keep Kq4 all0
  replace K := K.trans Kq4 all0
  refine own_go (B := T4.setTop (mkF m 21 #[.val (.int cc)] [(.ref r4), (.ref b3), (.ref b3)])) st4 ?_
  refine own_go (B := T4.setTop (mkF m 22 #[.val (.int cc)] [(.int (0 : Int32)), (.ref r4), (.ref b3), (.ref b3)])) (fun t k => ?_) ?_
  · show Steps p.tables e below (T4.setTop (mkF m 21 #[.val (.int cc)] [(.ref r4), (.ref b3), (.ref b3)])) _
    refine XS.iconst X4.here hx rfl (hb hby d_jdk_42_method_139_21) ?_
    show Steps p.tables e below (T4.setTop (mkF m 22 #[.val (.int cc)] [(.int (0 : Int32)), (.ref r4), (.ref b3), (.ref b3)])) _
    exact k
  -- pc 22: java/lang/String.<init>
  obtain ⟨_, _, ⟨T5, L5, k5, n5⟩, -, X5, ⟨Lc5, hQ5, l5, y5, z5⟩, st5⟩ := X4.specialBack hx (y := (⟨"java/lang/String", "<init>", "([BB)V"⟩ : MethodName)) rfl hown (mvT hZ (hw _ (List.mem_of_getElem? (i := 49) rfl))) (mvT hZ (hw _ (List.mem_of_getElem? (i := 50) rfl))) (mvT hZ (hw _ (List.mem_of_getElem? (i := 51) rfl))) (by decide) (backOf (W := 1) (rmSBB l Z a0 hw [] b3 r4 T4.heap n0 O A3 F3_value F3_coder g_b3) hZ (hw _ (List.mem_of_getElem? (i := 51) rfl)) (hw _ (List.mem_of_getElem? (i := 11) rfl)) (by decide) (by decide)) (g := (mkF m 22 #[.val (.int cc)] [(.int (0 : Int32)), (.ref r4), (.ref b3), (.ref b3)])) rfl (by rw [hml]; rfl) (Steps.refl _) (a := b3) (argsL := [(.ref r4), (.int (0 : Int32))]) (rest := [(.ref b3)]) (lenOf pd_2 rfl) rfl (by show 2 * 0 + _ ≤ _; exact Nat.le_of_eq rfl) (hb hby d_jdk_42_method_139_22) (fun _ hWm => ⟨rfl, rfl, (by decide : 2 + 0 ≤ _), (by decide : 5 + 0 ≤ _)⟩)
  dsimp only [Pt.U, Pt.locs, Pt.cells, Pt.slots] at X5 l5 y5 z5 st5 hQ5
  subst l5 y5 z5
  obtain ⟨rfl, Nq5, Kq5, Gq5_0, Gq5_1⟩ := hQ5
  replace N := Fr.app N Nq5
  replace A3 := A3.keep Kq5
  clear F3_coder
  clear F3_value
  replace Gq4_0 := Gq4_0.keep Kq5 (ninS (Nat.ne_of_gt lt_b3_r4) nin0)
  replace O := O.keep Kq5 (allS g_b3 all0)
  replace K := K.trans Kq5 (allS (Or.inr s_b3) all0)
  refine own_go (B := T5.setTop (mkF m 25 #[.val (.int cc)] [(.ref b3)])) (fun t k => st5.trans k) ?_
  obtain ⟨fs, hr, hrun, hended, hW, hsame⟩ := X5.leave (v := some (.ref b3)) (fun h => by rw [Bd.returns] at h; cases h)
  refine ⟨_, _, own_retA X5 hx rfl Bd.returns rfl (hb hby d_jdk_42_method_139_25) hr, hfin _ _ ⟨hrun, hended, _, _, rfl, ?_, ⟨_, rfl⟩, hW, hsame.mono (by decide) (by decide)⟩⟩
  show QVO Z cc zc h0 n0 _ T5.heap _
  exact ⟨b3, r4, k4, rfl, N, K, s_b3, s_r4, A3, Gq5_1, Gq5_0, Gq4_0⟩
def QRnn (Z : State) (o : Addr) (mm : Addr) (h0 : Heap) (n0 : Nat) (v : Option Value) (h : Heap) (L : List Loc) : Prop := v = some (.ref o) ∧ Fr n0 L ∧ h = h0
theorem ef_Rnn (m : MethodId) (o : Addr) (mm : Addr) : entryFrame m #[(.ref o), (.ref mm)] 2 = mkF m 0 #[.val (.ref o), .val (.ref mm)] [] := by first | (simp [entryFrame, mkF, argsToLocals, Value.category]; done) | rfl | (rfl)
set_option maxRecDepth 65536 in
set_option maxHeartbeats 40000000 in
theorem rmRnn (l : Launch) (Z : State) (a0 : Array Value) (hw : ∀ d ∈ tables_1, d.before a0 Z = true) (ws : List Jvm.Cond) (o : Addr) (mm : Addr) (h0 : Heap) (n0 : Nat) (O : Old Z n0 h0)  :
    MetFree l (⟨"java/util/Objects", "requireNonNull", "(Ljava/lang/Object;Ljava/lang/String;)Ljava/lang/Object;"⟩ : MethodName) (head1 (Jvm.Cond.code (⟨"java/util/Objects", "requireNonNull", "(Ljava/lang/Object;Ljava/lang/String;)Ljava/lang/Object;"⟩ : MethodName) jdk_31_method_11_code 2 (some (.object "java/lang/Object")) :: ws) ({ frames := 0, cells := 0, slots := 0, locals := 0 } : Room)) (fun as_ U => as_ = #[(.ref o), (.ref mm)] ∧ Z.Warmed39 U.vm ∧ U.heap = h0) (fun _ _ _ _ _ => True) (fun _ U oo_ U' => ∃ vv_ LL_, oo_ = .returned vv_ ∧ QRnn Z o mm h0 n0 vv_ U'.heap LL_ ∧ FrameEnd U oo_ U' LL_ ({ frames := 0, cells := 0, slots := 0, locals := 0 } : Room).cells ({ frames := 0, cells := 0, slots := 0, locals := 0 } : Room).slots) := by
  refine MetFree.of_bodySF (plainFor_of_name pn_3) hisR ?_
  intro p e s m args below meth c s₁ Bd hml0 hP hK
  obtain ⟨rfl, hZ, hh⟩ := hP
  have hx := Bd.exec
  have hby := Bd.bytes
  have hml : c.maxLocals = 2 := hml0
  have hown : s.vm.findClass "java/util/Objects" = some m.cls := findClass_of_methodNamed Bd.named
  have hnm := (name_of_methodNamed Bd.named Bd.method).1
  have X0 : Stand p l e ({ frames := 0, cells := 0, slots := 0, locals := 0 } : Room) s m #[(.ref o), (.ref mm)] below meth c s₁ [] 0 0 := Stand.of_body Bd
  have e0 : s₁.heap = h0 := by rw [← hh, Bd.state]; rfl
  have N := Fr.nil n0
  have K : Keep h0 h0 [] := Keep.refl h0 _
  refine own_go (B := s₁.setTop (mkF m 0 #[.val (.ref o), .val (.ref mm)] [])) (fun t k => castTop (ef_Rnn m o mm) k) ?_
  refine own_abs (fun P hfin => ?_)
  refine own_go (B := s₁.setTop (mkF m 14 #[.val (.ref o), .val (.ref mm)] [(.ref o)])) (fun t k => ?_) ?_
  · show Steps p.tables e below (s₁.setTop (mkF m 0 #[.val (.ref o), .val (.ref mm)] [])) _
    refine XS.aloadN X0.here hx rfl (hb hby d_jdk_31_method_11_0) rfl rfl ?_
    show Steps p.tables e below (s₁.setTop (mkF m 1 #[.val (.ref o), .val (.ref mm)] [(.ref o)])) _
    refine XT.ifnonnullYes X0.here hx rfl (pc0 := 1) (pc' := 13) rfl (hb hby d_jdk_31_method_11_1) rfl (by decide) (by decide) ?_
    show Steps p.tables e below (s₁.setTop (mkF m 13 #[.val (.ref o), .val (.ref mm)] [])) _
    refine XS.aloadN X0.here hx rfl (hb hby d_jdk_31_method_11_13) rfl rfl ?_
    show Steps p.tables e below (s₁.setTop (mkF m 14 #[.val (.ref o), .val (.ref mm)] [(.ref o)])) _
    exact k
  obtain ⟨fs, hr, hrun, hended, hW, hsame⟩ := X0.leave (v := some (.ref o)) (fun h => by rw [Bd.returns] at h; cases h)
  refine ⟨_, _, own_retA X0 hx rfl Bd.returns rfl (hb hby d_jdk_31_method_11_14) hr, hfin _ _ ⟨hrun, hended, _, _, rfl, ?_, ⟨_, rfl⟩, hW, hsame.mono (by decide) (by decide)⟩⟩
  show QRnn Z o mm h0 n0 _ s₁.heap _
  exact ⟨rfl, N, e0⟩
def QOp (Z : State) (p1 : Int32) (w0 : Addr) (w1 : Addr) (w2 : Addr) (w3 : Addr) (w4 : Addr) (w5 : Addr) (w6 : Addr) (h0 : Heap) (n0 : Nat) (v : Option Value) (h : Heap) (L : List Loc) : Prop := ∃ r : Addr, v = some (.ref r) ∧ Fr n0 L ∧ h = h0
theorem ef_Op (m : MethodId) (p1 : Int32) : entryFrame m #[(.int p1)] 1 = mkF m 0 #[.val (.int p1)] [] := by first | (simp [entryFrame, mkF, argsToLocals, Value.category]; done) | rfl | (rfl)
set_option maxRecDepth 65536 in
set_option maxHeartbeats 40000000 in
theorem rmOp (l : Launch) (Z : State) (a0 : Array Value) (hw : ∀ d ∈ tables_1, d.before a0 Z = true) (ws : List Jvm.Cond) (p1 : Int32) (w0 : Addr) (w1 : Addr) (w2 : Addr) (w3 : Addr) (w4 : Addr) (w5 : Addr) (w6 : Addr) (h0 : Heap) (n0 : Nat) (O : Old Z n0 h0) (S_0 : Sta Z Z.heap "com/example/nasute/nasute/sql/Operation" "SELECT" "Lcom/example/nasute/nasute/sql/Operation;" (.ref w0)) (S_1 : Sta Z Z.heap "com/example/nasute/nasute/sql/Operation" "INSERT" "Lcom/example/nasute/nasute/sql/Operation;" (.ref w1)) (S_2 : Sta Z Z.heap "com/example/nasute/nasute/sql/Operation" "UPDATE" "Lcom/example/nasute/nasute/sql/Operation;" (.ref w2)) (S_3 : Sta Z Z.heap "com/example/nasute/nasute/sql/Operation" "DELETE" "Lcom/example/nasute/nasute/sql/Operation;" (.ref w3)) (S_4 : Sta Z Z.heap "com/example/nasute/nasute/sql/Operation" "CREATE" "Lcom/example/nasute/nasute/sql/Operation;" (.ref w4)) (S_5 : Sta Z Z.heap "com/example/nasute/nasute/sql/Operation" "DROP" "Lcom/example/nasute/nasute/sql/Operation;" (.ref w5)) (S_6 : Sta Z Z.heap "com/example/nasute/nasute/sql/Operation" "ALTER" "Lcom/example/nasute/nasute/sql/Operation;" (.ref w6)) :
    MetFree l (⟨"com/example/nasute/nasute/sql/EveryAtPinLaw", "op", "(I)Lcom/example/nasute/nasute/sql/Operation;"⟩ : MethodName) (head1 (Jvm.Cond.code (⟨"com/example/nasute/nasute/sql/EveryAtPinLaw", "op", "(I)Lcom/example/nasute/nasute/sql/Operation;"⟩ : MethodName) method_2_code 1 (some (.object "com/example/nasute/nasute/sql/Operation")) :: ws) ({ frames := 0, cells := 0, slots := 0, locals := 0 } : Room)) (fun as_ U => as_ = #[(.int p1)] ∧ Z.Warmed39 U.vm ∧ U.heap = h0) (fun _ _ _ _ _ => True) (fun _ U oo_ U' => ∃ vv_ LL_, oo_ = .returned vv_ ∧ QOp Z p1 w0 w1 w2 w3 w4 w5 w6 h0 n0 vv_ U'.heap LL_ ∧ FrameEnd U oo_ U' LL_ ({ frames := 0, cells := 0, slots := 0, locals := 0 } : Room).cells ({ frames := 0, cells := 0, slots := 0, locals := 0 } : Room).slots) := by
  refine MetFree.of_bodySF (plainFor_of_name pn_4) hisR ?_
  intro p e s m args below meth c s₁ Bd hml0 hP hK
  obtain ⟨rfl, hZ, hh⟩ := hP
  have hx := Bd.exec
  have hby := Bd.bytes
  have hml : c.maxLocals = 1 := hml0
  have hown : s.vm.findClass "com/example/nasute/nasute/sql/EveryAtPinLaw" = some m.cls := findClass_of_methodNamed Bd.named
  have hnm := (name_of_methodNamed Bd.named Bd.method).1
  have X0 : Stand p l e ({ frames := 0, cells := 0, slots := 0, locals := 0 } : Room) s m #[(.int p1)] below meth c s₁ [] 0 0 := Stand.of_body Bd
  have e0 : s₁.heap = h0 := by rw [← hh, Bd.state]; rfl
  have N := Fr.nil n0
  have K : Keep h0 h0 [] := Keep.refl h0 _
  refine own_go (B := s₁.setTop (mkF m 0 #[.val (.int p1)] [])) (fun t k => castTop (ef_Op m p1) k) ?_
  refine own_abs (fun P hfin => ?_)
  refine own_go (B := s₁.setTop (mkF m 1 #[.val (.int p1)] [(.int p1)])) (fun t k => ?_) ?_
  · show Steps p.tables e below (s₁.setTop (mkF m 0 #[.val (.int p1)] [])) _
    refine XS.iloadN X0.here hx rfl (hb hby d_method_2_0) rfl ?_
    show Steps p.tables e below (s₁.setTop (mkF m 1 #[.val (.int p1)] [(.int p1)])) _
    exact k
  by_cases c0 : p1 = (0 : Int32)
  · refine own_go (B := s₁.setTop (mkF m 4 #[.val (.int p1)] [])) (fun t k => ?_) ?_
    · show Steps p.tables e below (s₁.setTop (mkF m 1 #[.val (.int p1)] [(.int p1)])) _
      refine XS.ifNo X0.here hx rfl (hb hby d_method_2_1) rfl ((if0 _ _).trans (teq c0).2) ?_
      show Steps p.tables e below (s₁.setTop (mkF m 4 #[.val (.int p1)] [])) _
      exact k
    obtain ⟨T1, X1, e1, st1⟩ := getS2 X0 hx hZ hown (host := "") (Or.inl (hw _ (List.mem_of_getElem? (i := 5) rfl))) Via.refl e0 (S_0.ext O.2) (g := (mkF m 4 #[.val (.int p1)] [])) rfl (hb hby d_method_2_4)
    refine own_go (B := T1.setTop (mkF m 7 #[.val (.int p1)] [(.ref w0)])) st1 ?_
    obtain ⟨fs, hr, hrun, hended, hW, hsame⟩ := X1.leave (v := some (.ref w0)) (fun h => by rw [Bd.returns] at h; cases h)
    refine ⟨_, _, own_retA X1 hx rfl Bd.returns rfl (hb hby d_method_2_7) hr, hfin _ _ ⟨hrun, hended, _, _, rfl, ?_, ⟨_, rfl⟩, hW, hsame.mono (by decide) (by decide)⟩⟩
    show QOp Z p1 w0 w1 w2 w3 w4 w5 w6 h0 n0 _ T1.heap _
    exact ⟨w0, rfl, N, e1⟩
  · refine own_go (B := s₁.setTop (mkF m 10 #[.val (.int p1)] [(.int (1 : Int32)), (.int p1)])) (fun t k => ?_) ?_
    · show Steps p.tables e below (s₁.setTop (mkF m 1 #[.val (.int p1)] [(.int p1)])) _
      refine XS.ifYes X0.here hx rfl (pc0 := 1) (pc' := 8) rfl (hb hby d_method_2_1) rfl ((if0 _ _).trans (feq c0).2) (by decide) (by decide) ?_
      show Steps p.tables e below (s₁.setTop (mkF m 8 #[.val (.int p1)] [])) _
      refine XS.iloadN X0.here hx rfl (hb hby d_method_2_8) rfl ?_
      show Steps p.tables e below (s₁.setTop (mkF m 9 #[.val (.int p1)] [(.int p1)])) _
      refine XS.iconst X0.here hx rfl (hb hby d_method_2_9) ?_
      show Steps p.tables e below (s₁.setTop (mkF m 10 #[.val (.int p1)] [(.int (1 : Int32)), (.int p1)])) _
      exact k
    by_cases c1 : p1 = (1 : Int32)
    · refine own_go (B := s₁.setTop (mkF m 13 #[.val (.int p1)] [])) (fun t k => ?_) ?_
      · show Steps p.tables e below (s₁.setTop (mkF m 10 #[.val (.int p1)] [(.int (1 : Int32)), (.int p1)])) _
        refine XS.icmpNo X0.here hx rfl (hb hby d_method_2_10) rfl (teq c1).2 ?_
        show Steps p.tables e below (s₁.setTop (mkF m 13 #[.val (.int p1)] [])) _
        exact k
      obtain ⟨T3, X3, e3, st3⟩ := getS2 X0 hx hZ hown (host := "") (Or.inl (hw _ (List.mem_of_getElem? (i := 117) rfl))) Via.refl e0 (S_1.ext O.2) (g := (mkF m 13 #[.val (.int p1)] [])) rfl (hb hby d_method_2_13)
      refine own_go (B := T3.setTop (mkF m 16 #[.val (.int p1)] [(.ref w1)])) st3 ?_
      obtain ⟨fs, hr, hrun, hended, hW, hsame⟩ := X3.leave (v := some (.ref w1)) (fun h => by rw [Bd.returns] at h; cases h)
      refine ⟨_, _, own_retA X3 hx rfl Bd.returns rfl (hb hby d_method_2_16) hr, hfin _ _ ⟨hrun, hended, _, _, rfl, ?_, ⟨_, rfl⟩, hW, hsame.mono (by decide) (by decide)⟩⟩
      show QOp Z p1 w0 w1 w2 w3 w4 w5 w6 h0 n0 _ T3.heap _
      exact ⟨w1, rfl, N, e3⟩
    · refine own_go (B := s₁.setTop (mkF m 19 #[.val (.int p1)] [(.int (2 : Int32)), (.int p1)])) (fun t k => ?_) ?_
      · show Steps p.tables e below (s₁.setTop (mkF m 10 #[.val (.int p1)] [(.int (1 : Int32)), (.int p1)])) _
        refine XS.icmpYes X0.here hx rfl (pc0 := 10) (pc' := 17) rfl (hb hby d_method_2_10) rfl (feq c1).2 (by decide) (by decide) ?_
        show Steps p.tables e below (s₁.setTop (mkF m 17 #[.val (.int p1)] [])) _
        refine XS.iloadN X0.here hx rfl (hb hby d_method_2_17) rfl ?_
        show Steps p.tables e below (s₁.setTop (mkF m 18 #[.val (.int p1)] [(.int p1)])) _
        refine XS.iconst X0.here hx rfl (hb hby d_method_2_18) ?_
        show Steps p.tables e below (s₁.setTop (mkF m 19 #[.val (.int p1)] [(.int (2 : Int32)), (.int p1)])) _
        exact k
      by_cases c2 : p1 = (2 : Int32)
      · refine own_go (B := s₁.setTop (mkF m 22 #[.val (.int p1)] [])) (fun t k => ?_) ?_
        · show Steps p.tables e below (s₁.setTop (mkF m 19 #[.val (.int p1)] [(.int (2 : Int32)), (.int p1)])) _
          refine XS.icmpNo X0.here hx rfl (hb hby d_method_2_19) rfl (teq c2).2 ?_
          show Steps p.tables e below (s₁.setTop (mkF m 22 #[.val (.int p1)] [])) _
          exact k
        obtain ⟨T5, X5, e5, st5⟩ := getS2 X0 hx hZ hown (host := "") (Or.inl (hw _ (List.mem_of_getElem? (i := 115) rfl))) Via.refl e0 (S_2.ext O.2) (g := (mkF m 22 #[.val (.int p1)] [])) rfl (hb hby d_method_2_22)
        refine own_go (B := T5.setTop (mkF m 25 #[.val (.int p1)] [(.ref w2)])) st5 ?_
        obtain ⟨fs, hr, hrun, hended, hW, hsame⟩ := X5.leave (v := some (.ref w2)) (fun h => by rw [Bd.returns] at h; cases h)
        refine ⟨_, _, own_retA X5 hx rfl Bd.returns rfl (hb hby d_method_2_25) hr, hfin _ _ ⟨hrun, hended, _, _, rfl, ?_, ⟨_, rfl⟩, hW, hsame.mono (by decide) (by decide)⟩⟩
        show QOp Z p1 w0 w1 w2 w3 w4 w5 w6 h0 n0 _ T5.heap _
        exact ⟨w2, rfl, N, e5⟩
      · refine own_go (B := s₁.setTop (mkF m 28 #[.val (.int p1)] [(.int (3 : Int32)), (.int p1)])) (fun t k => ?_) ?_
        · show Steps p.tables e below (s₁.setTop (mkF m 19 #[.val (.int p1)] [(.int (2 : Int32)), (.int p1)])) _
          refine XS.icmpYes X0.here hx rfl (pc0 := 19) (pc' := 26) rfl (hb hby d_method_2_19) rfl (feq c2).2 (by decide) (by decide) ?_
          show Steps p.tables e below (s₁.setTop (mkF m 26 #[.val (.int p1)] [])) _
          refine XS.iloadN X0.here hx rfl (hb hby d_method_2_26) rfl ?_
          show Steps p.tables e below (s₁.setTop (mkF m 27 #[.val (.int p1)] [(.int p1)])) _
          refine XS.iconst X0.here hx rfl (hb hby d_method_2_27) ?_
          show Steps p.tables e below (s₁.setTop (mkF m 28 #[.val (.int p1)] [(.int (3 : Int32)), (.int p1)])) _
          exact k
        by_cases c3 : p1 = (3 : Int32)
        · refine own_go (B := s₁.setTop (mkF m 31 #[.val (.int p1)] [])) (fun t k => ?_) ?_
          · show Steps p.tables e below (s₁.setTop (mkF m 28 #[.val (.int p1)] [(.int (3 : Int32)), (.int p1)])) _
            refine XS.icmpNo X0.here hx rfl (hb hby d_method_2_28) rfl (teq c3).2 ?_
            show Steps p.tables e below (s₁.setTop (mkF m 31 #[.val (.int p1)] [])) _
            exact k
          obtain ⟨T7, X7, e7, st7⟩ := getS2 X0 hx hZ hown (host := "") (Or.inl (hw _ (List.mem_of_getElem? (i := 119) rfl))) Via.refl e0 (S_3.ext O.2) (g := (mkF m 31 #[.val (.int p1)] [])) rfl (hb hby d_method_2_31)
          refine own_go (B := T7.setTop (mkF m 34 #[.val (.int p1)] [(.ref w3)])) st7 ?_
          obtain ⟨fs, hr, hrun, hended, hW, hsame⟩ := X7.leave (v := some (.ref w3)) (fun h => by rw [Bd.returns] at h; cases h)
          refine ⟨_, _, own_retA X7 hx rfl Bd.returns rfl (hb hby d_method_2_34) hr, hfin _ _ ⟨hrun, hended, _, _, rfl, ?_, ⟨_, rfl⟩, hW, hsame.mono (by decide) (by decide)⟩⟩
          show QOp Z p1 w0 w1 w2 w3 w4 w5 w6 h0 n0 _ T7.heap _
          exact ⟨w3, rfl, N, e7⟩
        · refine own_go (B := s₁.setTop (mkF m 37 #[.val (.int p1)] [(.int (4 : Int32)), (.int p1)])) (fun t k => ?_) ?_
          · show Steps p.tables e below (s₁.setTop (mkF m 28 #[.val (.int p1)] [(.int (3 : Int32)), (.int p1)])) _
            refine XS.icmpYes X0.here hx rfl (pc0 := 28) (pc' := 35) rfl (hb hby d_method_2_28) rfl (feq c3).2 (by decide) (by decide) ?_
            show Steps p.tables e below (s₁.setTop (mkF m 35 #[.val (.int p1)] [])) _
            refine XS.iloadN X0.here hx rfl (hb hby d_method_2_35) rfl ?_
            show Steps p.tables e below (s₁.setTop (mkF m 36 #[.val (.int p1)] [(.int p1)])) _
            refine XS.iconst X0.here hx rfl (hb hby d_method_2_36) ?_
            show Steps p.tables e below (s₁.setTop (mkF m 37 #[.val (.int p1)] [(.int (4 : Int32)), (.int p1)])) _
            exact k
          by_cases c4 : p1 = (4 : Int32)
          · refine own_go (B := s₁.setTop (mkF m 40 #[.val (.int p1)] [])) (fun t k => ?_) ?_
            · show Steps p.tables e below (s₁.setTop (mkF m 37 #[.val (.int p1)] [(.int (4 : Int32)), (.int p1)])) _
              refine XS.icmpNo X0.here hx rfl (hb hby d_method_2_37) rfl (teq c4).2 ?_
              show Steps p.tables e below (s₁.setTop (mkF m 40 #[.val (.int p1)] [])) _
              exact k
            obtain ⟨T9, X9, e9, st9⟩ := getS2 X0 hx hZ hown (host := "") (Or.inl (hw _ (List.mem_of_getElem? (i := 121) rfl))) Via.refl e0 (S_4.ext O.2) (g := (mkF m 40 #[.val (.int p1)] [])) rfl (hb hby d_method_2_40)
            refine own_go (B := T9.setTop (mkF m 43 #[.val (.int p1)] [(.ref w4)])) st9 ?_
            obtain ⟨fs, hr, hrun, hended, hW, hsame⟩ := X9.leave (v := some (.ref w4)) (fun h => by rw [Bd.returns] at h; cases h)
            refine ⟨_, _, own_retA X9 hx rfl Bd.returns rfl (hb hby d_method_2_43) hr, hfin _ _ ⟨hrun, hended, _, _, rfl, ?_, ⟨_, rfl⟩, hW, hsame.mono (by decide) (by decide)⟩⟩
            show QOp Z p1 w0 w1 w2 w3 w4 w5 w6 h0 n0 _ T9.heap _
            exact ⟨w4, rfl, N, e9⟩
          · refine own_go (B := s₁.setTop (mkF m 46 #[.val (.int p1)] [(.int (5 : Int32)), (.int p1)])) (fun t k => ?_) ?_
            · show Steps p.tables e below (s₁.setTop (mkF m 37 #[.val (.int p1)] [(.int (4 : Int32)), (.int p1)])) _
              refine XS.icmpYes X0.here hx rfl (pc0 := 37) (pc' := 44) rfl (hb hby d_method_2_37) rfl (feq c4).2 (by decide) (by decide) ?_
              show Steps p.tables e below (s₁.setTop (mkF m 44 #[.val (.int p1)] [])) _
              refine XS.iloadN X0.here hx rfl (hb hby d_method_2_44) rfl ?_
              show Steps p.tables e below (s₁.setTop (mkF m 45 #[.val (.int p1)] [(.int p1)])) _
              refine XS.iconst X0.here hx rfl (hb hby d_method_2_45) ?_
              show Steps p.tables e below (s₁.setTop (mkF m 46 #[.val (.int p1)] [(.int (5 : Int32)), (.int p1)])) _
              exact k
            by_cases c5 : p1 = (5 : Int32)
            · refine own_go (B := s₁.setTop (mkF m 49 #[.val (.int p1)] [])) (fun t k => ?_) ?_
              · show Steps p.tables e below (s₁.setTop (mkF m 46 #[.val (.int p1)] [(.int (5 : Int32)), (.int p1)])) _
                refine XS.icmpNo X0.here hx rfl (hb hby d_method_2_46) rfl (teq c5).2 ?_
                show Steps p.tables e below (s₁.setTop (mkF m 49 #[.val (.int p1)] [])) _
                exact k
              obtain ⟨T11, X11, e11, st11⟩ := getS2 X0 hx hZ hown (host := "") (Or.inl (hw _ (List.mem_of_getElem? (i := 113) rfl))) Via.refl e0 (S_5.ext O.2) (g := (mkF m 49 #[.val (.int p1)] [])) rfl (hb hby d_method_2_49)
              refine own_go (B := T11.setTop (mkF m 52 #[.val (.int p1)] [(.ref w5)])) st11 ?_
              obtain ⟨fs, hr, hrun, hended, hW, hsame⟩ := X11.leave (v := some (.ref w5)) (fun h => by rw [Bd.returns] at h; cases h)
              refine ⟨_, _, own_retA X11 hx rfl Bd.returns rfl (hb hby d_method_2_52) hr, hfin _ _ ⟨hrun, hended, _, _, rfl, ?_, ⟨_, rfl⟩, hW, hsame.mono (by decide) (by decide)⟩⟩
              show QOp Z p1 w0 w1 w2 w3 w4 w5 w6 h0 n0 _ T11.heap _
              exact ⟨w5, rfl, N, e11⟩
            · refine own_go (B := s₁.setTop (mkF m 53 #[.val (.int p1)] [])) (fun t k => ?_) ?_
              · show Steps p.tables e below (s₁.setTop (mkF m 46 #[.val (.int p1)] [(.int (5 : Int32)), (.int p1)])) _
                refine XS.icmpYes X0.here hx rfl (pc0 := 46) (pc' := 53) rfl (hb hby d_method_2_46) rfl (feq c5).2 (by decide) (by decide) ?_
                show Steps p.tables e below (s₁.setTop (mkF m 53 #[.val (.int p1)] [])) _
                exact k
              obtain ⟨T13, X13, e13, st13⟩ := getS2 X0 hx hZ hown (host := "") (Or.inl (hw _ (List.mem_of_getElem? (i := 123) rfl))) Via.refl e0 (S_6.ext O.2) (g := (mkF m 53 #[.val (.int p1)] [])) rfl (hb hby d_method_2_53)
              refine own_go (B := T13.setTop (mkF m 56 #[.val (.int p1)] [(.ref w6)])) st13 ?_
              obtain ⟨fs, hr, hrun, hended, hW, hsame⟩ := X13.leave (v := some (.ref w6)) (fun h => by rw [Bd.returns] at h; cases h)
              refine ⟨_, _, own_retA X13 hx rfl Bd.returns rfl (hb hby d_method_2_56) hr, hfin _ _ ⟨hrun, hended, _, _, rfl, ?_, ⟨_, rfl⟩, hW, hsame.mono (by decide) (by decide)⟩⟩
              show QOp Z p1 w0 w1 w2 w3 w4 w5 w6 h0 n0 _ T13.heap _
              exact ⟨w6, rfl, N, e13⟩
def QON1 (Z : State) (a : Addr) (d1 : Addr) (s1 : Addr) (h0 : Heap) (n0 : Nat) (v : Option Value) (h : Heap) (L : List Loc) : Prop := v = none ∧ Fr n0 L ∧ Keep h0 h [a]
theorem ef_ON1 (m : MethodId) (a : Addr) (d1 : Addr) (s1 : Addr) : entryFrame m #[(.ref a), (.ref d1), (.ref s1)] 3 = mkF m 0 #[.val (.ref a), .val (.ref d1), .val (.ref s1)] [] := by first | (simp [entryFrame, mkF, argsToLocals, Value.category]; done) | rfl | (rfl)
set_option maxRecDepth 65536 in
set_option maxHeartbeats 40000000 in
theorem rmON1 (l : Launch) (Z : State) (a0 : Array Value) (hw : ∀ d ∈ tables_1, d.before a0 Z = true) (ws : List Jvm.Cond) (a : Addr) (d1 : Addr) (s1 : Addr) (h0 : Heap) (n0 : Nat) (O : Old Z n0 h0) (E : Exa Z h0 a "com/example/nasute/nasute/sql/ObjectName") (F1 : Fld Z h0 a "com/example/nasute/nasute/sql/ObjectName" "database" "Ljava/lang/String;" .null) (F2 : Fld Z h0 a "com/example/nasute/nasute/sql/ObjectName" "name" "Ljava/lang/String;" .null) (ga : n0 ≤ a) :
    MetFree l (⟨"com/example/nasute/nasute/sql/ObjectName", "<init>", "(Ljava/lang/String;Ljava/lang/String;)V"⟩ : MethodName) (head1 (Jvm.Cond.code (⟨"com/example/nasute/nasute/sql/ObjectName", "<init>", "(Ljava/lang/String;Ljava/lang/String;)V"⟩ : MethodName) prog_74_method_1_code 3 none :: ws) ({ frames := 2, cells := 2, slots := 20, locals := 24 } : Room)) (fun as_ U => as_ = #[(.ref a), (.ref d1), (.ref s1)] ∧ Z.Warmed39 U.vm ∧ U.heap = h0) (fun _ _ _ _ _ => True) (fun _ U oo_ U' => ∃ vv_ LL_, oo_ = .returned vv_ ∧ QON1 Z a d1 s1 h0 n0 vv_ U'.heap LL_ ∧ ReturnedEndW U oo_ U' LL_ ({ frames := 2, cells := 2, slots := 20, locals := 24 } : Room).cells ({ frames := 2, cells := 2, slots := 20, locals := 24 } : Room).slots) := by
  refine MetFree.of_bodySF (plainFor_of_name pn_5) hisR ?_
  intro p e s m args below meth c s₁ Bd hml0 hP hK
  obtain ⟨rfl, hZ, hh⟩ := hP
  have hx := Bd.exec
  have hby := Bd.bytes
  have hml : c.maxLocals = 3 := hml0
  have hown : s.vm.findClass "com/example/nasute/nasute/sql/ObjectName" = some m.cls := findClass_of_methodNamed Bd.named
  have hnm := (name_of_methodNamed Bd.named Bd.method).1
  have X0 : Stand p l e ({ frames := 2, cells := 2, slots := 20, locals := 24 } : Room) (s.setVm s.vm) m #[(.ref a), (.ref d1), (.ref s1)] below meth c s₁ [] 0 0 := Stand.of_body Bd
  have e0 : s₁.heap = h0 := by rw [← hh, Bd.state]; rfl
  have N := Fr.nil n0
  have hown : (s.setVm s.vm).vm.findClass "com/example/nasute/nasute/sql/ObjectName" = some m.cls := hown
  have hZ : Z.Warmed39 (s.setVm s.vm).vm := hZ
  have hS : s.Since s.vm h0.size := (State.WarmedH.refl s).since _
  have hk : h0.size ≤ h0.size := Nat.le_refl _
  have K : Keep h0 h0 [a] := Keep.refl h0 _
  refine own_go (B := s₁.setTop (mkF m 0 #[.val (.ref a), .val (.ref d1), .val (.ref s1)] [])) (fun t k => castTop (ef_ON1 m a d1 s1) k) ?_
  refine own_abs (fun P hfin => ?_)
  refine own_go (B := s₁.setTop (mkF m 1 #[.val (.ref a), .val (.ref d1), .val (.ref s1)] [(.ref a)])) (fun t k => ?_) ?_
  · show Steps p.tables e below (s₁.setTop (mkF m 0 #[.val (.ref a), .val (.ref d1), .val (.ref s1)] [])) _
    refine XS.aloadN X0.here hx rfl (hb hby d_prog_74_method_1_0) rfl rfl ?_
    show Steps p.tables e below (s₁.setTop (mkF m 1 #[.val (.ref a), .val (.ref d1), .val (.ref s1)] [(.ref a)])) _
    exact k
  -- pc 1: java/lang/Record.<init>
  obtain ⟨_, _, ⟨T1, L1, k1, n1⟩, -, X1, ⟨Lc1, hQ1, l1, y1, z1⟩, st1⟩ := X0.specialBack hx (y := (⟨"java/lang/Record", "<init>", "()V"⟩ : MethodName)) rfl hown (mvT hZ (hw _ (List.mem_of_getElem? (i := 58) rfl))) (mvT hZ (hw _ (List.mem_of_getElem? (i := 59) rfl))) (mvT hZ (hw _ (List.mem_of_getElem? (i := 62) rfl))) (by decide) (backOf (W := 0) (rmRec l Z a0 hw [] a h0 n0 O ) hZ (hw _ (List.mem_of_getElem? (i := 62) rfl)) (hw _ (List.mem_of_getElem? (i := 61) rfl)) (by decide) (by decide)) (g := (mkF m 1 #[.val (.ref a), .val (.ref d1), .val (.ref s1)] [(.ref a)])) rfl (by rw [hml]; rfl) (Steps.refl _) (a := a) (argsL := []) (rest := []) (lenOf pd_3 rfl) rfl (by show 2 * 0 + _ ≤ _; exact Nat.le_of_eq rfl) (hb hby d_prog_74_method_1_1) (fun _ hWm => ⟨rfl, e0, (by decide : 0 + 0 ≤ _), (by decide : 0 + 0 ≤ _)⟩)
  dsimp only [Pt.U, Pt.locs, Pt.cells, Pt.slots] at X1 l1 y1 z1 st1 hQ1
  subst l1 y1 z1
  obtain ⟨rfl, Nq1, Kq1⟩ := hQ1
  replace N := Fr.app N Nq1
  refine own_go (B := T1.setTop (mkF m 4 #[.val (.ref a), .val (.ref d1), .val (.ref s1)] [])) (fun t k => st1.trans k) ?_
  refine own_go (B := T1.setTop (mkF m 5 #[.val (.ref a), .val (.ref d1), .val (.ref s1)] [(.ref s1)])) (fun t k => ?_) ?_
  · show Steps p.tables e below (T1.setTop (mkF m 4 #[.val (.ref a), .val (.ref d1), .val (.ref s1)] [])) _
    refine XS.aloadN X1.here hx rfl (hb hby d_prog_74_method_1_4) rfl rfl ?_
    show Steps p.tables e below (T1.setTop (mkF m 5 #[.val (.ref a), .val (.ref d1), .val (.ref s1)] [(.ref s1)])) _
    exact k
  obtain ⟨b2, T2, h2, k2, X2, e2, E2, hS, hk', hZ, hown, st2⟩ := ldcS X1 hx hZ hown (hw _ (List.mem_of_getElem? (i := 64) rfl)) (fun d hd => hw d ((by decide +kernel : ∀ d ∈ Bundle.stringAtoms, d ∈ tables_1) d hd)) Kq1 hS hk (g := (mkF m 5 #[.val (.ref a), .val (.ref d1), .val (.ref s1)] [(.ref s1)])) rfl (hb hby d_prog_74_method_1_5) (n := 16) (by decide) (by decide) (by decide) (by decide)
  replace E := E.ext E2
  replace F1 := F1.ext E2
  replace F2 := F2.ext E2
  replace O := O.ext E2
  replace hk := Nat.le_trans hk E2.1
  replace K := K.ext E2
  replace hk := hk'
  refine own_go (B := T2.setTop (mkF m 7 #[.val (.ref a), .val (.ref d1), .val (.ref s1)] [(.ref b2), (.ref s1)])) st2 ?_
  -- pc 7: java/util/Objects.requireNonNull
  obtain ⟨_, _, ⟨T3, L3, k3, n3⟩, -, X3, ⟨Lc3, hQ3, l3, y3, z3⟩, st3⟩ := Jvm.LawKit.callS X2 hx (y := (⟨"java/util/Objects", "requireNonNull", "(Ljava/lang/Object;Ljava/lang/String;)Ljava/lang/Object;"⟩ : MethodName)) hown (mvT hZ (hw _ (List.mem_of_getElem? (i := 67) rfl))) (mvT hZ (hw _ (List.mem_of_getElem? (i := 68) rfl))) (mvT hZ (hw _ (List.mem_of_getElem? (i := 69) rfl))) (mvT hZ (hw _ (List.mem_of_getElem? (i := 70) rfl))) (by decide) (backOf (W := 0) (rmRnn l Z a0 hw [] s1 b2 h2 n0 O ) hZ (hw _ (List.mem_of_getElem? (i := 70) rfl)) (hw _ (List.mem_of_getElem? (i := 69) rfl)) (by decide) (by decide)) (g := (mkF m 7 #[.val (.ref a), .val (.ref d1), .val (.ref s1)] [(.ref b2), (.ref s1)])) rfl (by rw [hml]; rfl) (argsL := [(.ref s1), (.ref b2)]) (rest := []) (lenOf pd_4 rfl) rfl (by show 2 * 0 + _ ≤ _; exact Nat.le_of_eq rfl) (hb hby d_prog_74_method_1_7) (fun _ hWm => ⟨rfl, e2, (by decide : 2 + 0 ≤ _), (by decide : 20 + 0 ≤ _)⟩)
  dsimp only [Pt.U, Pt.locs, Pt.cells, Pt.slots] at X3 l3 y3 z3 st3 hQ3
  subst l3 y3 z3
  obtain ⟨rfl, Nq3, Kq3⟩ := hQ3
  replace N := Fr.app N Nq3
  refine own_go (B := T3.setTop (mkF m 10 #[.val (.ref a), .val (.ref d1), .val (.ref s1)] [(.ref s1)])) st3 ?_
  refine own_go (B := T3.setTop (mkF m 13 #[.val (.ref a), .val (.ref d1), .val (.ref s1)] [(.ref d1), (.ref a)])) (fun t k => ?_) ?_
  · show Steps p.tables e below (T3.setTop (mkF m 10 #[.val (.ref a), .val (.ref d1), .val (.ref s1)] [(.ref s1)])) _
    refine XS.pop X3.here hx rfl (hb hby d_prog_74_method_1_10) rfl rfl ?_
    show Steps p.tables e below (T3.setTop (mkF m 11 #[.val (.ref a), .val (.ref d1), .val (.ref s1)] [])) _
    refine XS.aloadN X3.here hx rfl (hb hby d_prog_74_method_1_11) rfl rfl ?_
    show Steps p.tables e below (T3.setTop (mkF m 12 #[.val (.ref a), .val (.ref d1), .val (.ref s1)] [(.ref a)])) _
    refine XS.aloadN X3.here hx rfl (hb hby d_prog_74_method_1_12) rfl rfl ?_
    show Steps p.tables e below (T3.setTop (mkF m 13 #[.val (.ref a), .val (.ref d1), .val (.ref s1)] [(.ref d1), (.ref a)])) _
    exact k
  obtain ⟨T4, h4, X4, e4, W4, st4⟩ := putF X3 hx hZ hown (host := "") (Or.inl (hw _ (List.mem_of_getElem? (i := 71) rfl))) Via.refl Kq3 F1 E (Or.inr ⟨(hw _ (List.mem_of_getElem? (i := 72) rfl)), rfl, hnm⟩) (hw _ (List.mem_of_getElem? (i := 53) rfl)) (ty := (.object "java/lang/String")) (by decide) rfl rfl (g := (mkF m 13 #[.val (.ref a), .val (.ref d1), .val (.ref s1)] [(.ref d1), (.ref a)])) rfl rfl (hb hby d_prog_74_method_1_13)
  have Fw4 := F1.same W4
  replace E := E.wr W4
  clear F1
  replace F2 := F2.other W4 (Or.inr (slot_ne (Or.inr (hw _ (List.mem_of_getElem? (i := 74) rfl))) (Or.inr (hw _ (List.mem_of_getElem? (i := 72) rfl))) (by decide) (t := (.object "java/lang/String")) (t' := (.object "java/lang/String")) (by decide) (by decide)))
  replace O := O.wr W4 ga
  replace hk := Nat.le_trans hk (Keep.of_wr W4).1
  replace K := K.wr W4 (Or.inl (List.mem_of_getElem? (i := 0) rfl))
  replace N := Fr.snoc X4 N ga
  refine own_go (B := T4.setTop (mkF m 16 #[.val (.ref a), .val (.ref d1), .val (.ref s1)] [])) st4 ?_
  refine own_go (B := T4.setTop (mkF m 18 #[.val (.ref a), .val (.ref d1), .val (.ref s1)] [(.ref s1), (.ref a)])) (fun t k => ?_) ?_
  · show Steps p.tables e below (T4.setTop (mkF m 16 #[.val (.ref a), .val (.ref d1), .val (.ref s1)] [])) _
    refine XS.aloadN X4.here hx rfl (hb hby d_prog_74_method_1_16) rfl rfl ?_
    show Steps p.tables e below (T4.setTop (mkF m 17 #[.val (.ref a), .val (.ref d1), .val (.ref s1)] [(.ref a)])) _
    refine XS.aloadN X4.here hx rfl (hb hby d_prog_74_method_1_17) rfl rfl ?_
    show Steps p.tables e below (T4.setTop (mkF m 18 #[.val (.ref a), .val (.ref d1), .val (.ref s1)] [(.ref s1), (.ref a)])) _
    exact k
  obtain ⟨T5, h5, X5, e5, W5, st5⟩ := putF X4 hx hZ hown (host := "") (Or.inl (hw _ (List.mem_of_getElem? (i := 73) rfl))) Via.refl e4 F2 E (Or.inr ⟨(hw _ (List.mem_of_getElem? (i := 74) rfl)), rfl, hnm⟩) (hw _ (List.mem_of_getElem? (i := 53) rfl)) (ty := (.object "java/lang/String")) (by decide) rfl rfl (g := (mkF m 18 #[.val (.ref a), .val (.ref d1), .val (.ref s1)] [(.ref s1), (.ref a)])) rfl rfl (hb hby d_prog_74_method_1_18)
  have Fw5 := F2.same W5
  replace E := E.wr W5
  clear F2
  replace Fw4 := Fw4.other W5 (Or.inr (slot_ne (Or.inr (hw _ (List.mem_of_getElem? (i := 72) rfl))) (Or.inr (hw _ (List.mem_of_getElem? (i := 74) rfl))) (by decide) (t := (.object "java/lang/String")) (t' := (.object "java/lang/String")) (by decide) (by decide)))
  replace O := O.wr W5 ga
  replace hk := Nat.le_trans hk (Keep.of_wr W5).1
  replace K := K.wr W5 (Or.inl (List.mem_of_getElem? (i := 0) rfl))
  replace N := Fr.snoc X5 N ga
  refine own_go (B := T5.setTop (mkF m 21 #[.val (.ref a), .val (.ref d1), .val (.ref s1)] [])) st5 ?_
  obtain ⟨fs, hr, hrun, hended, hEnd⟩ := X5.leaveW hS (by rw [e5]; exact hk) (v := none) (fun _ => rfl)
  refine ⟨_, _, X5.returnOut hx Bd.returns (hb hby d_prog_74_method_1_21) hr, hfin _ _ ⟨hrun, hended, _, _, rfl, ?_, hEnd.1, hEnd.2.1, hEnd.2.2.1, hEnd.2.2.2.mono (by decide) (by decide)⟩⟩
  show QON1 Z a d1 s1 h0 n0 _ T5.heap _
  rw [e5]
  exact ⟨rfl, N, K⟩
def QON0 (Z : State) (a : Addr) (s1 : Addr) (h0 : Heap) (n0 : Nat) (v : Option Value) (h : Heap) (L : List Loc) : Prop := v = none ∧ Fr n0 L ∧ Keep h0 h [a]
theorem ef_ON0 (m : MethodId) (a : Addr) (s1 : Addr) : entryFrame m #[(.ref a), .null, (.ref s1)] 3 = mkF m 0 #[.val (.ref a), .val .null, .val (.ref s1)] [] := by first | (simp [entryFrame, mkF, argsToLocals, Value.category]; done) | rfl | (rfl)
set_option maxRecDepth 65536 in
set_option maxHeartbeats 40000000 in
theorem rmON0 (l : Launch) (Z : State) (a0 : Array Value) (hw : ∀ d ∈ tables_1, d.before a0 Z = true) (ws : List Jvm.Cond) (a : Addr) (s1 : Addr) (h0 : Heap) (n0 : Nat) (O : Old Z n0 h0) (E : Exa Z h0 a "com/example/nasute/nasute/sql/ObjectName") (F1 : Fld Z h0 a "com/example/nasute/nasute/sql/ObjectName" "database" "Ljava/lang/String;" .null) (F2 : Fld Z h0 a "com/example/nasute/nasute/sql/ObjectName" "name" "Ljava/lang/String;" .null) (ga : n0 ≤ a) :
    MetFree l (⟨"com/example/nasute/nasute/sql/ObjectName", "<init>", "(Ljava/lang/String;Ljava/lang/String;)V"⟩ : MethodName) (head1 (Jvm.Cond.code (⟨"com/example/nasute/nasute/sql/ObjectName", "<init>", "(Ljava/lang/String;Ljava/lang/String;)V"⟩ : MethodName) prog_74_method_1_code 3 none :: ws) ({ frames := 2, cells := 2, slots := 20, locals := 24 } : Room)) (fun as_ U => as_ = #[(.ref a), .null, (.ref s1)] ∧ Z.Warmed39 U.vm ∧ U.heap = h0) (fun _ _ _ _ _ => True) (fun _ U oo_ U' => ∃ vv_ LL_, oo_ = .returned vv_ ∧ QON0 Z a s1 h0 n0 vv_ U'.heap LL_ ∧ ReturnedEndW U oo_ U' LL_ ({ frames := 2, cells := 2, slots := 20, locals := 24 } : Room).cells ({ frames := 2, cells := 2, slots := 20, locals := 24 } : Room).slots) := by
  refine MetFree.of_bodySF (plainFor_of_name pn_5) hisR ?_
  intro p e s m args below meth c s₁ Bd hml0 hP hK
  obtain ⟨rfl, hZ, hh⟩ := hP
  have hx := Bd.exec
  have hby := Bd.bytes
  have hml : c.maxLocals = 3 := hml0
  have hown : s.vm.findClass "com/example/nasute/nasute/sql/ObjectName" = some m.cls := findClass_of_methodNamed Bd.named
  have hnm := (name_of_methodNamed Bd.named Bd.method).1
  have X0 : Stand p l e ({ frames := 2, cells := 2, slots := 20, locals := 24 } : Room) (s.setVm s.vm) m #[(.ref a), .null, (.ref s1)] below meth c s₁ [] 0 0 := Stand.of_body Bd
  have e0 : s₁.heap = h0 := by rw [← hh, Bd.state]; rfl
  have N := Fr.nil n0
  have hown : (s.setVm s.vm).vm.findClass "com/example/nasute/nasute/sql/ObjectName" = some m.cls := hown
  have hZ : Z.Warmed39 (s.setVm s.vm).vm := hZ
  have hS : s.Since s.vm h0.size := (State.WarmedH.refl s).since _
  have hk : h0.size ≤ h0.size := Nat.le_refl _
  have K : Keep h0 h0 [a] := Keep.refl h0 _
  refine own_go (B := s₁.setTop (mkF m 0 #[.val (.ref a), .val .null, .val (.ref s1)] [])) (fun t k => castTop (ef_ON0 m a s1) k) ?_
  refine own_abs (fun P hfin => ?_)
  refine own_go (B := s₁.setTop (mkF m 1 #[.val (.ref a), .val .null, .val (.ref s1)] [(.ref a)])) (fun t k => ?_) ?_
  · show Steps p.tables e below (s₁.setTop (mkF m 0 #[.val (.ref a), .val .null, .val (.ref s1)] [])) _
    refine XS.aloadN X0.here hx rfl (hb hby d_prog_74_method_1_0) rfl rfl ?_
    show Steps p.tables e below (s₁.setTop (mkF m 1 #[.val (.ref a), .val .null, .val (.ref s1)] [(.ref a)])) _
    exact k
  -- pc 1: java/lang/Record.<init>
  obtain ⟨_, _, ⟨T1, L1, k1, n1⟩, -, X1, ⟨Lc1, hQ1, l1, y1, z1⟩, st1⟩ := X0.specialBack hx (y := (⟨"java/lang/Record", "<init>", "()V"⟩ : MethodName)) rfl hown (mvT hZ (hw _ (List.mem_of_getElem? (i := 58) rfl))) (mvT hZ (hw _ (List.mem_of_getElem? (i := 59) rfl))) (mvT hZ (hw _ (List.mem_of_getElem? (i := 62) rfl))) (by decide) (backOf (W := 0) (rmRec l Z a0 hw [] a h0 n0 O ) hZ (hw _ (List.mem_of_getElem? (i := 62) rfl)) (hw _ (List.mem_of_getElem? (i := 61) rfl)) (by decide) (by decide)) (g := (mkF m 1 #[.val (.ref a), .val .null, .val (.ref s1)] [(.ref a)])) rfl (by rw [hml]; rfl) (Steps.refl _) (a := a) (argsL := []) (rest := []) (lenOf pd_3 rfl) rfl (by show 2 * 0 + _ ≤ _; exact Nat.le_of_eq rfl) (hb hby d_prog_74_method_1_1) (fun _ hWm => ⟨rfl, e0, (by decide : 0 + 0 ≤ _), (by decide : 0 + 0 ≤ _)⟩)
  dsimp only [Pt.U, Pt.locs, Pt.cells, Pt.slots] at X1 l1 y1 z1 st1 hQ1
  subst l1 y1 z1
  obtain ⟨rfl, Nq1, Kq1⟩ := hQ1
  replace N := Fr.app N Nq1
  refine own_go (B := T1.setTop (mkF m 4 #[.val (.ref a), .val .null, .val (.ref s1)] [])) (fun t k => st1.trans k) ?_
  refine own_go (B := T1.setTop (mkF m 5 #[.val (.ref a), .val .null, .val (.ref s1)] [(.ref s1)])) (fun t k => ?_) ?_
  · show Steps p.tables e below (T1.setTop (mkF m 4 #[.val (.ref a), .val .null, .val (.ref s1)] [])) _
    refine XS.aloadN X1.here hx rfl (hb hby d_prog_74_method_1_4) rfl rfl ?_
    show Steps p.tables e below (T1.setTop (mkF m 5 #[.val (.ref a), .val .null, .val (.ref s1)] [(.ref s1)])) _
    exact k
  obtain ⟨b2, T2, h2, k2, X2, e2, E2, hS, hk', hZ, hown, st2⟩ := ldcS X1 hx hZ hown (hw _ (List.mem_of_getElem? (i := 64) rfl)) (fun d hd => hw d ((by decide +kernel : ∀ d ∈ Bundle.stringAtoms, d ∈ tables_1) d hd)) Kq1 hS hk (g := (mkF m 5 #[.val (.ref a), .val .null, .val (.ref s1)] [(.ref s1)])) rfl (hb hby d_prog_74_method_1_5) (n := 16) (by decide) (by decide) (by decide) (by decide)
  replace E := E.ext E2
  replace F1 := F1.ext E2
  replace F2 := F2.ext E2
  replace O := O.ext E2
  replace hk := Nat.le_trans hk E2.1
  replace K := K.ext E2
  replace hk := hk'
  refine own_go (B := T2.setTop (mkF m 7 #[.val (.ref a), .val .null, .val (.ref s1)] [(.ref b2), (.ref s1)])) st2 ?_
  -- pc 7: java/util/Objects.requireNonNull
  obtain ⟨_, _, ⟨T3, L3, k3, n3⟩, -, X3, ⟨Lc3, hQ3, l3, y3, z3⟩, st3⟩ := Jvm.LawKit.callS X2 hx (y := (⟨"java/util/Objects", "requireNonNull", "(Ljava/lang/Object;Ljava/lang/String;)Ljava/lang/Object;"⟩ : MethodName)) hown (mvT hZ (hw _ (List.mem_of_getElem? (i := 67) rfl))) (mvT hZ (hw _ (List.mem_of_getElem? (i := 68) rfl))) (mvT hZ (hw _ (List.mem_of_getElem? (i := 69) rfl))) (mvT hZ (hw _ (List.mem_of_getElem? (i := 70) rfl))) (by decide) (backOf (W := 0) (rmRnn l Z a0 hw [] s1 b2 h2 n0 O ) hZ (hw _ (List.mem_of_getElem? (i := 70) rfl)) (hw _ (List.mem_of_getElem? (i := 69) rfl)) (by decide) (by decide)) (g := (mkF m 7 #[.val (.ref a), .val .null, .val (.ref s1)] [(.ref b2), (.ref s1)])) rfl (by rw [hml]; rfl) (argsL := [(.ref s1), (.ref b2)]) (rest := []) (lenOf pd_4 rfl) rfl (by show 2 * 0 + _ ≤ _; exact Nat.le_of_eq rfl) (hb hby d_prog_74_method_1_7) (fun _ hWm => ⟨rfl, e2, (by decide : 2 + 0 ≤ _), (by decide : 20 + 0 ≤ _)⟩)
  dsimp only [Pt.U, Pt.locs, Pt.cells, Pt.slots] at X3 l3 y3 z3 st3 hQ3
  subst l3 y3 z3
  obtain ⟨rfl, Nq3, Kq3⟩ := hQ3
  replace N := Fr.app N Nq3
  refine own_go (B := T3.setTop (mkF m 10 #[.val (.ref a), .val .null, .val (.ref s1)] [(.ref s1)])) st3 ?_
  refine own_go (B := T3.setTop (mkF m 13 #[.val (.ref a), .val .null, .val (.ref s1)] [.null, (.ref a)])) (fun t k => ?_) ?_
  · show Steps p.tables e below (T3.setTop (mkF m 10 #[.val (.ref a), .val .null, .val (.ref s1)] [(.ref s1)])) _
    refine XS.pop X3.here hx rfl (hb hby d_prog_74_method_1_10) rfl rfl ?_
    show Steps p.tables e below (T3.setTop (mkF m 11 #[.val (.ref a), .val .null, .val (.ref s1)] [])) _
    refine XS.aloadN X3.here hx rfl (hb hby d_prog_74_method_1_11) rfl rfl ?_
    show Steps p.tables e below (T3.setTop (mkF m 12 #[.val (.ref a), .val .null, .val (.ref s1)] [(.ref a)])) _
    refine XS.aloadN X3.here hx rfl (hb hby d_prog_74_method_1_12) rfl rfl ?_
    show Steps p.tables e below (T3.setTop (mkF m 13 #[.val (.ref a), .val .null, .val (.ref s1)] [.null, (.ref a)])) _
    exact k
  obtain ⟨T4, h4, X4, e4, W4, st4⟩ := putF X3 hx hZ hown (host := "") (Or.inl (hw _ (List.mem_of_getElem? (i := 71) rfl))) Via.refl Kq3 F1 E (Or.inr ⟨(hw _ (List.mem_of_getElem? (i := 72) rfl)), rfl, hnm⟩) (hw _ (List.mem_of_getElem? (i := 53) rfl)) (ty := (.object "java/lang/String")) (by decide) rfl rfl (g := (mkF m 13 #[.val (.ref a), .val .null, .val (.ref s1)] [.null, (.ref a)])) rfl rfl (hb hby d_prog_74_method_1_13)
  have Fw4 := F1.same W4
  replace E := E.wr W4
  clear F1
  replace F2 := F2.other W4 (Or.inr (slot_ne (Or.inr (hw _ (List.mem_of_getElem? (i := 74) rfl))) (Or.inr (hw _ (List.mem_of_getElem? (i := 72) rfl))) (by decide) (t := (.object "java/lang/String")) (t' := (.object "java/lang/String")) (by decide) (by decide)))
  replace O := O.wr W4 ga
  replace hk := Nat.le_trans hk (Keep.of_wr W4).1
  replace K := K.wr W4 (Or.inl (List.mem_of_getElem? (i := 0) rfl))
  replace N := Fr.snoc X4 N ga
  refine own_go (B := T4.setTop (mkF m 16 #[.val (.ref a), .val .null, .val (.ref s1)] [])) st4 ?_
  refine own_go (B := T4.setTop (mkF m 18 #[.val (.ref a), .val .null, .val (.ref s1)] [(.ref s1), (.ref a)])) (fun t k => ?_) ?_
  · show Steps p.tables e below (T4.setTop (mkF m 16 #[.val (.ref a), .val .null, .val (.ref s1)] [])) _
    refine XS.aloadN X4.here hx rfl (hb hby d_prog_74_method_1_16) rfl rfl ?_
    show Steps p.tables e below (T4.setTop (mkF m 17 #[.val (.ref a), .val .null, .val (.ref s1)] [(.ref a)])) _
    refine XS.aloadN X4.here hx rfl (hb hby d_prog_74_method_1_17) rfl rfl ?_
    show Steps p.tables e below (T4.setTop (mkF m 18 #[.val (.ref a), .val .null, .val (.ref s1)] [(.ref s1), (.ref a)])) _
    exact k
  obtain ⟨T5, h5, X5, e5, W5, st5⟩ := putF X4 hx hZ hown (host := "") (Or.inl (hw _ (List.mem_of_getElem? (i := 73) rfl))) Via.refl e4 F2 E (Or.inr ⟨(hw _ (List.mem_of_getElem? (i := 74) rfl)), rfl, hnm⟩) (hw _ (List.mem_of_getElem? (i := 53) rfl)) (ty := (.object "java/lang/String")) (by decide) rfl rfl (g := (mkF m 18 #[.val (.ref a), .val .null, .val (.ref s1)] [(.ref s1), (.ref a)])) rfl rfl (hb hby d_prog_74_method_1_18)
  have Fw5 := F2.same W5
  replace E := E.wr W5
  clear F2
  replace Fw4 := Fw4.other W5 (Or.inr (slot_ne (Or.inr (hw _ (List.mem_of_getElem? (i := 72) rfl))) (Or.inr (hw _ (List.mem_of_getElem? (i := 74) rfl))) (by decide) (t := (.object "java/lang/String")) (t' := (.object "java/lang/String")) (by decide) (by decide)))
  replace O := O.wr W5 ga
  replace hk := Nat.le_trans hk (Keep.of_wr W5).1
  replace K := K.wr W5 (Or.inl (List.mem_of_getElem? (i := 0) rfl))
  replace N := Fr.snoc X5 N ga
  refine own_go (B := T5.setTop (mkF m 21 #[.val (.ref a), .val .null, .val (.ref s1)] [])) st5 ?_
  obtain ⟨fs, hr, hrun, hended, hEnd⟩ := X5.leaveW hS (by rw [e5]; exact hk) (v := none) (fun _ => rfl)
  refine ⟨_, _, X5.returnOut hx Bd.returns (hb hby d_prog_74_method_1_21) hr, hfin _ _ ⟨hrun, hended, _, _, rfl, ?_, hEnd.1, hEnd.2.1, hEnd.2.2.1, hEnd.2.2.2.mono (by decide) (by decide)⟩⟩
  show QON0 Z a s1 h0 n0 _ T5.heap _
  rw [e5]
  exact ⟨rfl, N, K⟩
def QEvI (Z : State) (a : Addr) (t1 : Addr) (o1 : Addr) (p1 : Int32) (h0 : Heap) (n0 : Nat) (v : Option Value) (h : Heap) (L : List Loc) : Prop := v = none ∧ Fr n0 L ∧ Keep h0 h [a] ∧ Fld Z h a "com/example/nasute/nasute/sql/ColumnAccess$Every" "table" "Lcom/example/nasute/nasute/sql/ObjectName;" (.ref t1) ∧ Fld Z h a "com/example/nasute/nasute/sql/ColumnAccess$Every" "operation" "Lcom/example/nasute/nasute/sql/Operation;" (.ref o1) ∧ Fld Z h a "com/example/nasute/nasute/sql/ColumnAccess$Every" "position" "I" (.int p1)
theorem ef_EvI (m : MethodId) (a : Addr) (t1 : Addr) (o1 : Addr) (p1 : Int32) : entryFrame m #[(.ref a), (.ref t1), (.ref o1), (.int p1)] 4 = mkF m 0 #[.val (.ref a), .val (.ref t1), .val (.ref o1), .val (.int p1)] [] := by first | (simp [entryFrame, mkF, argsToLocals, Value.category]; done) | rfl | (rfl)
set_option maxRecDepth 65536 in
set_option maxHeartbeats 40000000 in
theorem rmEvI (l : Launch) (Z : State) (a0 : Array Value) (hw : ∀ d ∈ tables_1, d.before a0 Z = true) (ws : List Jvm.Cond) (a : Addr) (t1 : Addr) (o1 : Addr) (p1 : Int32) (h0 : Heap) (n0 : Nat) (O : Old Z n0 h0) (E : Exa Z h0 a "com/example/nasute/nasute/sql/ColumnAccess$Every") (F0 : Fld Z h0 a "com/example/nasute/nasute/sql/ColumnAccess$Every" "table" "Lcom/example/nasute/nasute/sql/ObjectName;" .null) (F1 : Fld Z h0 a "com/example/nasute/nasute/sql/ColumnAccess$Every" "operation" "Lcom/example/nasute/nasute/sql/Operation;" .null) (F2 : Fld Z h0 a "com/example/nasute/nasute/sql/ColumnAccess$Every" "position" "I" (.int (0 : Int32))) (ga : n0 ≤ a) :
    MetFree l (⟨"com/example/nasute/nasute/sql/ColumnAccess$Every", "<init>", "(Lcom/example/nasute/nasute/sql/ObjectName;Lcom/example/nasute/nasute/sql/Operation;I)V"⟩ : MethodName) (head1 (Jvm.Cond.code (⟨"com/example/nasute/nasute/sql/ColumnAccess$Every", "<init>", "(Lcom/example/nasute/nasute/sql/ObjectName;Lcom/example/nasute/nasute/sql/Operation;I)V"⟩ : MethodName) prog_55_method_1_code 4 none :: ws) ({ frames := 2, cells := 4, slots := 64, locals := 24 } : Room)) (fun as_ U => as_ = #[(.ref a), (.ref t1), (.ref o1), (.int p1)] ∧ Z.Warmed39 U.vm ∧ U.heap = h0) (fun _ _ _ _ _ => True) (fun _ U oo_ U' => ∃ vv_ LL_, oo_ = .returned vv_ ∧ QEvI Z a t1 o1 p1 h0 n0 vv_ U'.heap LL_ ∧ ReturnedEndW U oo_ U' LL_ ({ frames := 2, cells := 4, slots := 64, locals := 24 } : Room).cells ({ frames := 2, cells := 4, slots := 64, locals := 24 } : Room).slots) := by
  refine MetFree.of_bodySF (plainFor_of_name pn_6) hisR ?_
  intro p e s m args below meth c s₁ Bd hml0 hP hK
  obtain ⟨rfl, hZ, hh⟩ := hP
  have hx := Bd.exec
  have hby := Bd.bytes
  have hml : c.maxLocals = 4 := hml0
  have hown : s.vm.findClass "com/example/nasute/nasute/sql/ColumnAccess$Every" = some m.cls := findClass_of_methodNamed Bd.named
  have hnm := (name_of_methodNamed Bd.named Bd.method).1
  have X0 : Stand p l e ({ frames := 2, cells := 4, slots := 64, locals := 24 } : Room) (s.setVm s.vm) m #[(.ref a), (.ref t1), (.ref o1), (.int p1)] below meth c s₁ [] 0 0 := Stand.of_body Bd
  have e0 : s₁.heap = h0 := by rw [← hh, Bd.state]; rfl
  have N := Fr.nil n0
  have hown : (s.setVm s.vm).vm.findClass "com/example/nasute/nasute/sql/ColumnAccess$Every" = some m.cls := hown
  have hZ : Z.Warmed39 (s.setVm s.vm).vm := hZ
  have hS : s.Since s.vm h0.size := (State.WarmedH.refl s).since _
  have hk : h0.size ≤ h0.size := Nat.le_refl _
  have K : Keep h0 h0 [a] := Keep.refl h0 _
  refine own_go (B := s₁.setTop (mkF m 0 #[.val (.ref a), .val (.ref t1), .val (.ref o1), .val (.int p1)] [])) (fun t k => castTop (ef_EvI m a t1 o1 p1) k) ?_
  refine own_abs (fun P hfin => ?_)
  refine own_go (B := s₁.setTop (mkF m 1 #[.val (.ref a), .val (.ref t1), .val (.ref o1), .val (.int p1)] [(.ref a)])) (fun t k => ?_) ?_
  · show Steps p.tables e below (s₁.setTop (mkF m 0 #[.val (.ref a), .val (.ref t1), .val (.ref o1), .val (.int p1)] [])) _
    refine XS.aloadN X0.here hx rfl (hb hby d_prog_55_method_1_0) rfl rfl ?_
    show Steps p.tables e below (s₁.setTop (mkF m 1 #[.val (.ref a), .val (.ref t1), .val (.ref o1), .val (.int p1)] [(.ref a)])) _
    exact k
  -- pc 1: java/lang/Record.<init>
  obtain ⟨_, _, ⟨T1, L1, k1, n1⟩, -, X1, ⟨Lc1, hQ1, l1, y1, z1⟩, st1⟩ := X0.specialBack hx (y := (⟨"java/lang/Record", "<init>", "()V"⟩ : MethodName)) rfl hown (mvT hZ (hw _ (List.mem_of_getElem? (i := 81) rfl))) (mvT hZ (hw _ (List.mem_of_getElem? (i := 59) rfl))) (mvT hZ (hw _ (List.mem_of_getElem? (i := 62) rfl))) (by decide) (backOf (W := 0) (rmRec l Z a0 hw [] a h0 n0 O ) hZ (hw _ (List.mem_of_getElem? (i := 62) rfl)) (hw _ (List.mem_of_getElem? (i := 61) rfl)) (by decide) (by decide)) (g := (mkF m 1 #[.val (.ref a), .val (.ref t1), .val (.ref o1), .val (.int p1)] [(.ref a)])) rfl (by rw [hml]; rfl) (Steps.refl _) (a := a) (argsL := []) (rest := []) (lenOf pd_3 rfl) rfl (by show 2 * 0 + _ ≤ _; exact Nat.le_of_eq rfl) (hb hby d_prog_55_method_1_1) (fun _ hWm => ⟨rfl, e0, (by decide : 0 + 0 ≤ _), (by decide : 0 + 0 ≤ _)⟩)
  dsimp only [Pt.U, Pt.locs, Pt.cells, Pt.slots] at X1 l1 y1 z1 st1 hQ1
  subst l1 y1 z1
  obtain ⟨rfl, Nq1, Kq1⟩ := hQ1
  replace N := Fr.app N Nq1
  refine own_go (B := T1.setTop (mkF m 4 #[.val (.ref a), .val (.ref t1), .val (.ref o1), .val (.int p1)] [])) (fun t k => st1.trans k) ?_
  refine own_go (B := T1.setTop (mkF m 5 #[.val (.ref a), .val (.ref t1), .val (.ref o1), .val (.int p1)] [(.ref t1)])) (fun t k => ?_) ?_
  · show Steps p.tables e below (T1.setTop (mkF m 4 #[.val (.ref a), .val (.ref t1), .val (.ref o1), .val (.int p1)] [])) _
    refine XS.aloadN X1.here hx rfl (hb hby d_prog_55_method_1_4) rfl rfl ?_
    show Steps p.tables e below (T1.setTop (mkF m 5 #[.val (.ref a), .val (.ref t1), .val (.ref o1), .val (.int p1)] [(.ref t1)])) _
    exact k
  obtain ⟨b2, T2, h2, k2, X2, e2, E2, hS, hk', hZ, hown, st2⟩ := ldcS X1 hx hZ hown (hw _ (List.mem_of_getElem? (i := 82) rfl)) (fun d hd => hw d ((by decide +kernel : ∀ d ∈ Bundle.stringAtoms, d ∈ tables_1) d hd)) Kq1 hS hk (g := (mkF m 5 #[.val (.ref a), .val (.ref t1), .val (.ref o1), .val (.int p1)] [(.ref t1)])) rfl (hb hby d_prog_55_method_1_5) (n := 20) (by decide) (by decide) (by decide) (by decide)
  replace E := E.ext E2
  replace F0 := F0.ext E2
  replace F1 := F1.ext E2
  replace F2 := F2.ext E2
  replace O := O.ext E2
  replace hk := Nat.le_trans hk E2.1
  replace K := K.ext E2
  replace hk := hk'
  refine own_go (B := T2.setTop (mkF m 7 #[.val (.ref a), .val (.ref t1), .val (.ref o1), .val (.int p1)] [(.ref b2), (.ref t1)])) st2 ?_
  -- pc 7: java/util/Objects.requireNonNull
  obtain ⟨_, _, ⟨T3, L3, k3, n3⟩, -, X3, ⟨Lc3, hQ3, l3, y3, z3⟩, st3⟩ := Jvm.LawKit.callS X2 hx (y := (⟨"java/util/Objects", "requireNonNull", "(Ljava/lang/Object;Ljava/lang/String;)Ljava/lang/Object;"⟩ : MethodName)) hown (mvT hZ (hw _ (List.mem_of_getElem? (i := 83) rfl))) (mvT hZ (hw _ (List.mem_of_getElem? (i := 68) rfl))) (mvT hZ (hw _ (List.mem_of_getElem? (i := 69) rfl))) (mvT hZ (hw _ (List.mem_of_getElem? (i := 70) rfl))) (by decide) (backOf (W := 0) (rmRnn l Z a0 hw [] t1 b2 h2 n0 O ) hZ (hw _ (List.mem_of_getElem? (i := 70) rfl)) (hw _ (List.mem_of_getElem? (i := 69) rfl)) (by decide) (by decide)) (g := (mkF m 7 #[.val (.ref a), .val (.ref t1), .val (.ref o1), .val (.int p1)] [(.ref b2), (.ref t1)])) rfl (by rw [hml]; rfl) (argsL := [(.ref t1), (.ref b2)]) (rest := []) (lenOf pd_4 rfl) rfl (by show 2 * 0 + _ ≤ _; exact Nat.le_of_eq rfl) (hb hby d_prog_55_method_1_7) (fun _ hWm => ⟨rfl, e2, (by decide : 2 + 0 ≤ _), (by decide : 24 + 0 ≤ _)⟩)
  dsimp only [Pt.U, Pt.locs, Pt.cells, Pt.slots] at X3 l3 y3 z3 st3 hQ3
  subst l3 y3 z3
  obtain ⟨rfl, Nq3, Kq3⟩ := hQ3
  replace N := Fr.app N Nq3
  refine own_go (B := T3.setTop (mkF m 10 #[.val (.ref a), .val (.ref t1), .val (.ref o1), .val (.int p1)] [(.ref t1)])) st3 ?_
  refine own_go (B := T3.setTop (mkF m 12 #[.val (.ref a), .val (.ref t1), .val (.ref o1), .val (.int p1)] [(.ref o1)])) (fun t k => ?_) ?_
  · show Steps p.tables e below (T3.setTop (mkF m 10 #[.val (.ref a), .val (.ref t1), .val (.ref o1), .val (.int p1)] [(.ref t1)])) _
    refine XS.pop X3.here hx rfl (hb hby d_prog_55_method_1_10) rfl rfl ?_
    show Steps p.tables e below (T3.setTop (mkF m 11 #[.val (.ref a), .val (.ref t1), .val (.ref o1), .val (.int p1)] [])) _
    refine XS.aloadN X3.here hx rfl (hb hby d_prog_55_method_1_11) rfl rfl ?_
    show Steps p.tables e below (T3.setTop (mkF m 12 #[.val (.ref a), .val (.ref t1), .val (.ref o1), .val (.int p1)] [(.ref o1)])) _
    exact k
  obtain ⟨b4, T4, h4, k4, X4, e4, E4, hS, hk', hZ, hown, st4⟩ := ldcS X3 hx hZ hown (hw _ (List.mem_of_getElem? (i := 84) rfl)) (fun d hd => hw d ((by decide +kernel : ∀ d ∈ Bundle.stringAtoms, d ∈ tables_1) d hd)) Kq3 hS hk (g := (mkF m 12 #[.val (.ref a), .val (.ref t1), .val (.ref o1), .val (.int p1)] [(.ref o1)])) rfl (hb hby d_prog_55_method_1_12) (n := 36) (by decide) (by decide) (by decide) (by decide)
  replace E := E.ext E4
  replace F0 := F0.ext E4
  replace F1 := F1.ext E4
  replace F2 := F2.ext E4
  replace O := O.ext E4
  replace hk := Nat.le_trans hk E4.1
  replace K := K.ext E4
  replace hk := hk'
  refine own_go (B := T4.setTop (mkF m 14 #[.val (.ref a), .val (.ref t1), .val (.ref o1), .val (.int p1)] [(.ref b4), (.ref o1)])) st4 ?_
  -- pc 14: java/util/Objects.requireNonNull
  obtain ⟨_, _, ⟨T5, L5, k5, n5⟩, -, X5, ⟨Lc5, hQ5, l5, y5, z5⟩, st5⟩ := Jvm.LawKit.callS X4 hx (y := (⟨"java/util/Objects", "requireNonNull", "(Ljava/lang/Object;Ljava/lang/String;)Ljava/lang/Object;"⟩ : MethodName)) hown (mvT hZ (hw _ (List.mem_of_getElem? (i := 83) rfl))) (mvT hZ (hw _ (List.mem_of_getElem? (i := 68) rfl))) (mvT hZ (hw _ (List.mem_of_getElem? (i := 69) rfl))) (mvT hZ (hw _ (List.mem_of_getElem? (i := 70) rfl))) (by decide) (backOf (W := 0) (rmRnn l Z a0 hw [] o1 b4 h4 n0 O ) hZ (hw _ (List.mem_of_getElem? (i := 70) rfl)) (hw _ (List.mem_of_getElem? (i := 69) rfl)) (by decide) (by decide)) (g := (mkF m 14 #[.val (.ref a), .val (.ref t1), .val (.ref o1), .val (.int p1)] [(.ref b4), (.ref o1)])) rfl (by rw [hml]; rfl) (argsL := [(.ref o1), (.ref b4)]) (rest := []) (lenOf pd_4 rfl) rfl (by show 2 * 0 + _ ≤ _; exact Nat.le_of_eq rfl) (hb hby d_prog_55_method_1_14) (fun _ hWm => ⟨rfl, e4, (by decide : 4 + 0 ≤ _), (by decide : 64 + 0 ≤ _)⟩)
  dsimp only [Pt.U, Pt.locs, Pt.cells, Pt.slots] at X5 l5 y5 z5 st5 hQ5
  subst l5 y5 z5
  obtain ⟨rfl, Nq5, Kq5⟩ := hQ5
  replace N := Fr.app N Nq5
  refine own_go (B := T5.setTop (mkF m 17 #[.val (.ref a), .val (.ref t1), .val (.ref o1), .val (.int p1)] [(.ref o1)])) st5 ?_
  refine own_go (B := T5.setTop (mkF m 20 #[.val (.ref a), .val (.ref t1), .val (.ref o1), .val (.int p1)] [(.ref t1), (.ref a)])) (fun t k => ?_) ?_
  · show Steps p.tables e below (T5.setTop (mkF m 17 #[.val (.ref a), .val (.ref t1), .val (.ref o1), .val (.int p1)] [(.ref o1)])) _
    refine XS.pop X5.here hx rfl (hb hby d_prog_55_method_1_17) rfl rfl ?_
    show Steps p.tables e below (T5.setTop (mkF m 18 #[.val (.ref a), .val (.ref t1), .val (.ref o1), .val (.int p1)] [])) _
    refine XS.aloadN X5.here hx rfl (hb hby d_prog_55_method_1_18) rfl rfl ?_
    show Steps p.tables e below (T5.setTop (mkF m 19 #[.val (.ref a), .val (.ref t1), .val (.ref o1), .val (.int p1)] [(.ref a)])) _
    refine XS.aloadN X5.here hx rfl (hb hby d_prog_55_method_1_19) rfl rfl ?_
    show Steps p.tables e below (T5.setTop (mkF m 20 #[.val (.ref a), .val (.ref t1), .val (.ref o1), .val (.int p1)] [(.ref t1), (.ref a)])) _
    exact k
  obtain ⟨T6, h6, X6, e6, W6, st6⟩ := putF X5 hx hZ hown (host := "") (Or.inl (hw _ (List.mem_of_getElem? (i := 85) rfl))) Via.refl Kq5 F0 E (Or.inr ⟨(hw _ (List.mem_of_getElem? (i := 86) rfl)), rfl, hnm⟩) (hw _ (List.mem_of_getElem? (i := 76) rfl)) (ty := (.object "com/example/nasute/nasute/sql/ObjectName")) (by decide) rfl rfl (g := (mkF m 20 #[.val (.ref a), .val (.ref t1), .val (.ref o1), .val (.int p1)] [(.ref t1), (.ref a)])) rfl rfl (hb hby d_prog_55_method_1_20)
  have Fw6 := F0.same W6
  replace E := E.wr W6
  clear F0
  replace F1 := F1.other W6 (Or.inr (slot_ne (Or.inr (hw _ (List.mem_of_getElem? (i := 88) rfl))) (Or.inr (hw _ (List.mem_of_getElem? (i := 86) rfl))) (by decide) (t := (.object "com/example/nasute/nasute/sql/Operation")) (t' := (.object "com/example/nasute/nasute/sql/ObjectName")) (by decide) (by decide)))
  replace F2 := F2.other W6 (Or.inr (slot_ne (Or.inr (hw _ (List.mem_of_getElem? (i := 90) rfl))) (Or.inr (hw _ (List.mem_of_getElem? (i := 86) rfl))) (by decide) (t := .int) (t' := (.object "com/example/nasute/nasute/sql/ObjectName")) (by decide) (by decide)))
  replace O := O.wr W6 ga
  replace hk := Nat.le_trans hk (Keep.of_wr W6).1
  replace K := K.wr W6 (Or.inl (List.mem_of_getElem? (i := 0) rfl))
  replace N := Fr.snoc X6 N ga
  refine own_go (B := T6.setTop (mkF m 23 #[.val (.ref a), .val (.ref t1), .val (.ref o1), .val (.int p1)] [])) st6 ?_
  refine own_go (B := T6.setTop (mkF m 25 #[.val (.ref a), .val (.ref t1), .val (.ref o1), .val (.int p1)] [(.ref o1), (.ref a)])) (fun t k => ?_) ?_
  · show Steps p.tables e below (T6.setTop (mkF m 23 #[.val (.ref a), .val (.ref t1), .val (.ref o1), .val (.int p1)] [])) _
    refine XS.aloadN X6.here hx rfl (hb hby d_prog_55_method_1_23) rfl rfl ?_
    show Steps p.tables e below (T6.setTop (mkF m 24 #[.val (.ref a), .val (.ref t1), .val (.ref o1), .val (.int p1)] [(.ref a)])) _
    refine XS.aloadN X6.here hx rfl (hb hby d_prog_55_method_1_24) rfl rfl ?_
    show Steps p.tables e below (T6.setTop (mkF m 25 #[.val (.ref a), .val (.ref t1), .val (.ref o1), .val (.int p1)] [(.ref o1), (.ref a)])) _
    exact k
  obtain ⟨T7, h7, X7, e7, W7, st7⟩ := putF X6 hx hZ hown (host := "") (Or.inl (hw _ (List.mem_of_getElem? (i := 87) rfl))) Via.refl e6 F1 E (Or.inr ⟨(hw _ (List.mem_of_getElem? (i := 88) rfl)), rfl, hnm⟩) (hw _ (List.mem_of_getElem? (i := 76) rfl)) (ty := (.object "com/example/nasute/nasute/sql/Operation")) (by decide) rfl rfl (g := (mkF m 25 #[.val (.ref a), .val (.ref t1), .val (.ref o1), .val (.int p1)] [(.ref o1), (.ref a)])) rfl rfl (hb hby d_prog_55_method_1_25)
  have Fw7 := F1.same W7
  replace E := E.wr W7
  clear F1
  replace F2 := F2.other W7 (Or.inr (slot_ne (Or.inr (hw _ (List.mem_of_getElem? (i := 90) rfl))) (Or.inr (hw _ (List.mem_of_getElem? (i := 88) rfl))) (by decide) (t := .int) (t' := (.object "com/example/nasute/nasute/sql/Operation")) (by decide) (by decide)))
  replace Fw6 := Fw6.other W7 (Or.inr (slot_ne (Or.inr (hw _ (List.mem_of_getElem? (i := 86) rfl))) (Or.inr (hw _ (List.mem_of_getElem? (i := 88) rfl))) (by decide) (t := (.object "com/example/nasute/nasute/sql/ObjectName")) (t' := (.object "com/example/nasute/nasute/sql/Operation")) (by decide) (by decide)))
  replace O := O.wr W7 ga
  replace hk := Nat.le_trans hk (Keep.of_wr W7).1
  replace K := K.wr W7 (Or.inl (List.mem_of_getElem? (i := 0) rfl))
  replace N := Fr.snoc X7 N ga
  refine own_go (B := T7.setTop (mkF m 28 #[.val (.ref a), .val (.ref t1), .val (.ref o1), .val (.int p1)] [])) st7 ?_
  refine own_go (B := T7.setTop (mkF m 30 #[.val (.ref a), .val (.ref t1), .val (.ref o1), .val (.int p1)] [(.int p1), (.ref a)])) (fun t k => ?_) ?_
  · show Steps p.tables e below (T7.setTop (mkF m 28 #[.val (.ref a), .val (.ref t1), .val (.ref o1), .val (.int p1)] [])) _
    refine XS.aloadN X7.here hx rfl (hb hby d_prog_55_method_1_28) rfl rfl ?_
    show Steps p.tables e below (T7.setTop (mkF m 29 #[.val (.ref a), .val (.ref t1), .val (.ref o1), .val (.int p1)] [(.ref a)])) _
    refine XS.iloadN X7.here hx rfl (hb hby d_prog_55_method_1_29) rfl ?_
    show Steps p.tables e below (T7.setTop (mkF m 30 #[.val (.ref a), .val (.ref t1), .val (.ref o1), .val (.int p1)] [(.int p1), (.ref a)])) _
    exact k
  obtain ⟨T8, h8, X8, e8, W8, st8⟩ := putF X7 hx hZ hown (host := "") (Or.inl (hw _ (List.mem_of_getElem? (i := 89) rfl))) Via.refl e7 F2 E (Or.inr ⟨(hw _ (List.mem_of_getElem? (i := 90) rfl)), rfl, hnm⟩) (hw _ (List.mem_of_getElem? (i := 76) rfl)) (ty := .int) (by decide) rfl rfl (g := (mkF m 30 #[.val (.ref a), .val (.ref t1), .val (.ref o1), .val (.int p1)] [(.int p1), (.ref a)])) rfl rfl (hb hby d_prog_55_method_1_30)
  have Fw8 := F2.same W8
  replace E := E.wr W8
  clear F2
  replace Fw6 := Fw6.other W8 (Or.inr (slot_ne (Or.inr (hw _ (List.mem_of_getElem? (i := 86) rfl))) (Or.inr (hw _ (List.mem_of_getElem? (i := 90) rfl))) (by decide) (t := (.object "com/example/nasute/nasute/sql/ObjectName")) (t' := .int) (by decide) (by decide)))
  replace Fw7 := Fw7.other W8 (Or.inr (slot_ne (Or.inr (hw _ (List.mem_of_getElem? (i := 88) rfl))) (Or.inr (hw _ (List.mem_of_getElem? (i := 90) rfl))) (by decide) (t := (.object "com/example/nasute/nasute/sql/Operation")) (t' := .int) (by decide) (by decide)))
  replace O := O.wr W8 ga
  replace hk := Nat.le_trans hk (Keep.of_wr W8).1
  replace K := K.wr W8 (Or.inl (List.mem_of_getElem? (i := 0) rfl))
  replace N := Fr.snoc X8 N ga
  refine own_go (B := T8.setTop (mkF m 33 #[.val (.ref a), .val (.ref t1), .val (.ref o1), .val (.int p1)] [])) st8 ?_
  obtain ⟨fs, hr, hrun, hended, hEnd⟩ := X8.leaveW hS (by rw [e8]; exact hk) (v := none) (fun _ => rfl)
  refine ⟨_, _, X8.returnOut hx Bd.returns (hb hby d_prog_55_method_1_33) hr, hfin _ _ ⟨hrun, hended, _, _, rfl, ?_, hEnd.1, hEnd.2.1, hEnd.2.2.1, hEnd.2.2.2.mono (by decide) (by decide)⟩⟩
  show QEvI Z a t1 o1 p1 h0 n0 _ T8.heap _
  rw [e8]
  exact ⟨rfl, N, K, Fw6, Fw7, Fw8⟩
def QAt (Z : State) (a : Addr) (t1 : Addr) (o1 : Addr) (p1 : Int32) (h0 : Heap) (n0 : Nat) (v : Option Value) (h : Heap) (L : List Loc) : Prop := ∃ r : Addr, v = some (.ref r) ∧ Fr n0 L ∧ Keep h0 h [] ∧ h0.size ≤ r ∧ Exa Z h r "com/example/nasute/nasute/sql/ColumnAccess$Every" ∧ Fld Z h r "com/example/nasute/nasute/sql/ColumnAccess$Every" "table" "Lcom/example/nasute/nasute/sql/ObjectName;" (.ref t1) ∧ Fld Z h r "com/example/nasute/nasute/sql/ColumnAccess$Every" "operation" "Lcom/example/nasute/nasute/sql/Operation;" (.ref o1) ∧ Fld Z h r "com/example/nasute/nasute/sql/ColumnAccess$Every" "position" "I" (.int p1)
theorem ef_At (m : MethodId) (a : Addr) (p1 : Int32) : entryFrame m #[(.ref a), (.int p1)] 2 = mkF m 0 #[.val (.ref a), .val (.int p1)] [] := by first | (simp [entryFrame, mkF, argsToLocals, Value.category]; done) | rfl | (rfl)
set_option maxRecDepth 65536 in
set_option maxHeartbeats 40000000 in
theorem rmAt (l : Launch) (Z : State) (a0 : Array Value) (hw : ∀ d ∈ tables_1, d.before a0 Z = true) (ws : List Jvm.Cond) (a : Addr) (t1 : Addr) (o1 : Addr) (p1 : Int32) (h0 : Heap) (n0 : Nat) (O : Old Z n0 h0) (F0 : Fld Z h0 a "com/example/nasute/nasute/sql/ColumnAccess$Every" "table" "Lcom/example/nasute/nasute/sql/ObjectName;" (.ref t1)) (F1 : Fld Z h0 a "com/example/nasute/nasute/sql/ColumnAccess$Every" "operation" "Lcom/example/nasute/nasute/sql/Operation;" (.ref o1)) :
    MetFree l (⟨"com/example/nasute/nasute/sql/ColumnAccess$Every", "at", "(I)Lcom/example/nasute/nasute/sql/ColumnAccess$Every;"⟩ : MethodName) (head1 (Jvm.Cond.code (⟨"com/example/nasute/nasute/sql/ColumnAccess$Every", "at", "(I)Lcom/example/nasute/nasute/sql/ColumnAccess$Every;"⟩ : MethodName) prog_55_method_2_code 2 (some (.object "com/example/nasute/nasute/sql/ColumnAccess$Every")) :: ws) ({ frames := 3, cells := 5, slots := 67, locals := 40 } : Room)) (fun as_ U => as_ = #[(.ref a), (.int p1)] ∧ Z.Warmed39 U.vm ∧ U.heap = h0) (fun _ _ _ _ _ => True) (fun _ U oo_ U' => ∃ vv_ LL_, oo_ = .returned vv_ ∧ QAt Z a t1 o1 p1 h0 n0 vv_ U'.heap LL_ ∧ ReturnedEndW U oo_ U' LL_ ({ frames := 3, cells := 5, slots := 67, locals := 40 } : Room).cells ({ frames := 3, cells := 5, slots := 67, locals := 40 } : Room).slots) := by
  refine MetFree.of_bodySF (plainFor_of_name pn_6) hisR ?_
  intro p e s m args below meth c s₁ Bd hml0 hP hK
  obtain ⟨rfl, hZ, hh⟩ := hP
  have hx := Bd.exec
  have hby := Bd.bytes
  have hml : c.maxLocals = 2 := hml0
  have hown : s.vm.findClass "com/example/nasute/nasute/sql/ColumnAccess$Every" = some m.cls := findClass_of_methodNamed Bd.named
  have hnm := (name_of_methodNamed Bd.named Bd.method).1
  have X0 : Stand p l e ({ frames := 3, cells := 5, slots := 67, locals := 40 } : Room) (s.setVm s.vm) m #[(.ref a), (.int p1)] below meth c s₁ [] 0 0 := Stand.of_body Bd
  have e0 : s₁.heap = h0 := by rw [← hh, Bd.state]; rfl
  have N := Fr.nil n0
  have hown : (s.setVm s.vm).vm.findClass "com/example/nasute/nasute/sql/ColumnAccess$Every" = some m.cls := hown
  have hZ : Z.Warmed39 (s.setVm s.vm).vm := hZ
  have hS : s.Since s.vm h0.size := (State.WarmedH.refl s).since _
  have hk : h0.size ≤ h0.size := Nat.le_refl _
  have K : Keep h0 h0 [] := Keep.refl h0 _
  refine own_go (B := s₁.setTop (mkF m 0 #[.val (.ref a), .val (.int p1)] [])) (fun t k => castTop (ef_At m a p1) k) ?_
  refine own_abs (fun P hfin => ?_)
  obtain ⟨T1, h1, X1, e1, E1, A1, D1, -, st1⟩ := newO X0 hx hZ hown (hw _ (List.mem_of_getElem? (i := 96) rfl)) (hw _ (List.mem_of_getElem? (i := 76) rfl)) (hw _ (List.mem_of_getElem? (i := 77) rfl)) e0 (g := (mkF m 0 #[.val (.ref a), .val (.int p1)] [])) rfl (hb hby d_prog_55_method_2_0) (by decide) (by decide)
  obtain ⟨b1, g1⟩ : ∃ z, z = h0.size := ⟨_, rfl⟩
  rw [← g1] at A1 D1 st1
  have lt_a_b1 : a < b1 := Nat.lt_of_lt_of_le F0.lt (Nat.le_of_eq g1.symm)
  have g_b1 : n0 ≤ b1 := Nat.le_trans (own_oldsz O) (Nat.le_of_eq g1.symm)
  have s_b1 : h0.size ≤ b1 := Nat.le_trans K.1 (Nat.le_of_eq g1.symm)
  replace F0 := F0.ext E1
  replace F1 := F1.ext E1
  replace O := O.ext E1
  replace hk := Nat.le_trans hk E1.1
  replace K := K.ext E1
  have F1_table : Fld Z h1 b1 "com/example/nasute/nasute/sql/ColumnAccess$Every" "table" "Lcom/example/nasute/nasute/sql/ObjectName;" .null := D1 (Or.inr (hw _ (List.mem_of_getElem? (i := 86) rfl))) (ty := (.object "com/example/nasute/nasute/sql/ObjectName")) (by decide)
  have F1_operation : Fld Z h1 b1 "com/example/nasute/nasute/sql/ColumnAccess$Every" "operation" "Lcom/example/nasute/nasute/sql/Operation;" .null := D1 (Or.inr (hw _ (List.mem_of_getElem? (i := 88) rfl))) (ty := (.object "com/example/nasute/nasute/sql/Operation")) (by decide)
  have F1_position : Fld Z h1 b1 "com/example/nasute/nasute/sql/ColumnAccess$Every" "position" "I" (.int (0 : Int32)) := D1 (Or.inr (hw _ (List.mem_of_getElem? (i := 90) rfl))) (ty := .int) (by decide)
  refine own_go (B := T1.setTop (mkF m 3 #[.val (.ref a), .val (.int p1)] [(.ref b1)])) st1 ?_
  refine own_go (B := T1.setTop (mkF m 5 #[.val (.ref a), .val (.int p1)] [(.ref a), (.ref b1), (.ref b1)])) (fun t k => ?_) ?_
  · show Steps p.tables e below (T1.setTop (mkF m 3 #[.val (.ref a), .val (.int p1)] [(.ref b1)])) _
    refine XS.dup X1.here hx rfl (hb hby d_prog_55_method_2_3) rfl rfl ?_
    show Steps p.tables e below (T1.setTop (mkF m 4 #[.val (.ref a), .val (.int p1)] [(.ref b1), (.ref b1)])) _
    refine XS.aloadN X1.here hx rfl (hb hby d_prog_55_method_2_4) rfl rfl ?_
    show Steps p.tables e below (T1.setTop (mkF m 5 #[.val (.ref a), .val (.int p1)] [(.ref a), (.ref b1), (.ref b1)])) _
    exact k
  obtain ⟨T2, X2, e2, st2⟩ := getF X1 hx hZ hown (host := "") (Or.inl (hw _ (List.mem_of_getElem? (i := 85) rfl))) Via.refl e1 F0 (g := (mkF m 5 #[.val (.ref a), .val (.int p1)] [(.ref a), (.ref b1), (.ref b1)])) rfl rfl (hb hby d_prog_55_method_2_5)
  refine own_go (B := T2.setTop (mkF m 8 #[.val (.ref a), .val (.int p1)] [(.ref t1), (.ref b1), (.ref b1)])) st2 ?_
  refine own_go (B := T2.setTop (mkF m 9 #[.val (.ref a), .val (.int p1)] [(.ref a), (.ref t1), (.ref b1), (.ref b1)])) (fun t k => ?_) ?_
  · show Steps p.tables e below (T2.setTop (mkF m 8 #[.val (.ref a), .val (.int p1)] [(.ref t1), (.ref b1), (.ref b1)])) _
    refine XS.aloadN X2.here hx rfl (hb hby d_prog_55_method_2_8) rfl rfl ?_
    show Steps p.tables e below (T2.setTop (mkF m 9 #[.val (.ref a), .val (.int p1)] [(.ref a), (.ref t1), (.ref b1), (.ref b1)])) _
    exact k
  obtain ⟨T3, X3, e3, st3⟩ := getF X2 hx hZ hown (host := "") (Or.inl (hw _ (List.mem_of_getElem? (i := 87) rfl))) Via.refl e2 F1 (g := (mkF m 9 #[.val (.ref a), .val (.int p1)] [(.ref a), (.ref t1), (.ref b1), (.ref b1)])) rfl rfl (hb hby d_prog_55_method_2_9)
  refine own_go (B := T3.setTop (mkF m 12 #[.val (.ref a), .val (.int p1)] [(.ref o1), (.ref t1), (.ref b1), (.ref b1)])) st3 ?_
  refine own_go (B := T3.setTop (mkF m 13 #[.val (.ref a), .val (.int p1)] [(.int p1), (.ref o1), (.ref t1), (.ref b1), (.ref b1)])) (fun t k => ?_) ?_
  · show Steps p.tables e below (T3.setTop (mkF m 12 #[.val (.ref a), .val (.int p1)] [(.ref o1), (.ref t1), (.ref b1), (.ref b1)])) _
    refine XS.iloadN X3.here hx rfl (hb hby d_prog_55_method_2_12) rfl ?_
    show Steps p.tables e below (T3.setTop (mkF m 13 #[.val (.ref a), .val (.int p1)] [(.int p1), (.ref o1), (.ref t1), (.ref b1), (.ref b1)])) _
    exact k
  -- pc 13: com/example/nasute/nasute/sql/ColumnAccess$Every.<init>
  obtain ⟨_, _, ⟨T4, L4, k4, n4⟩, -, X4, hSq4, hgq4, ⟨Lc4, hQ4, l4, y4, z4⟩, st4⟩ := X3.specialBackS hx (y := (⟨"com/example/nasute/nasute/sql/ColumnAccess$Every", "<init>", "(Lcom/example/nasute/nasute/sql/ObjectName;Lcom/example/nasute/nasute/sql/Operation;I)V"⟩ : MethodName)) rfl hown (mvT hZ (hw _ (List.mem_of_getElem? (i := 97) rfl))) (mvT hZ (hw _ (List.mem_of_getElem? (i := 79) rfl))) (mvT hZ (hw _ (List.mem_of_getElem? (i := 80) rfl))) (by decide) (backOfS (W := 1) (rmEvI l Z a0 hw [] b1 t1 o1 p1 h1 n0 O A1 F1_table F1_operation F1_position g_b1) hZ (hw _ (List.mem_of_getElem? (i := 80) rfl)) (hw _ (List.mem_of_getElem? (i := 77) rfl)) (by decide) (by decide)) (g := (mkF m 13 #[.val (.ref a), .val (.int p1)] [(.int p1), (.ref o1), (.ref t1), (.ref b1), (.ref b1)])) rfl (by rw [hml]; rfl) (Steps.refl _) (a := b1) (argsL := [(.ref t1), (.ref o1), (.int p1)]) (rest := [(.ref b1)]) (lenOf pd_5 rfl) rfl (by show 2 * 0 + _ ≤ _; exact Nat.le_of_eq rfl) (hb hby d_prog_55_method_2_13) (fun _ hWm => ⟨rfl, e3, (by decide : 1 + 4 ≤ _), (by decide : 3 + 64 ≤ _)⟩)
  dsimp only [Pt.U, Pt.locs, Pt.cells, Pt.slots] at X4 l4 y4 z4 st4 hQ4 hSq4 hgq4
  subst l4 y4 z4
  obtain ⟨X4, hS, hZ, hown⟩ := rebS hS (by rw [e3]; exact hk) X4 hSq4 hgq4 hZ hown
  obtain ⟨rfl, Nq4, Kq4, Gq4_0, Gq4_1, Gq4_2⟩ := hQ4
  replace N := Fr.app N Nq4
  replace F0 := F0.keep Kq4 (ninS (Nat.ne_of_lt lt_a_b1) nin0)
  replace F1 := F1.keep Kq4 (ninS (Nat.ne_of_lt lt_a_b1) nin0)
  replace A1 := A1.keep Kq4
  clear F1_table
  clear F1_operation
  clear F1_position
  replace O := O.keep Kq4 (allS g_b1 all0)
  replace K := K.trans Kq4 (allS (Or.inr s_b1) all0)
  have hk : T4.heap.size ≤ T4.heap.size := Nat.le_refl _
  refine own_go (B := T4.setTop (mkF m 16 #[.val (.ref a), .val (.int p1)] [(.ref b1)])) (fun t k => st4.trans k) ?_
  obtain ⟨fs, hr, hrun, hended, hEnd⟩ := X4.leaveW hS hk (v := some (.ref b1)) (fun h => by rw [Bd.returns] at h; cases h)
  refine ⟨_, _, own_retA X4 hx rfl Bd.returns rfl (hb hby d_prog_55_method_2_16) hr, hfin _ _ ⟨hrun, hended, _, _, rfl, ?_, hEnd.1, hEnd.2.1, hEnd.2.2.1, hEnd.2.2.2.mono (by decide) (by decide)⟩⟩
  show QAt Z a t1 o1 p1 h0 n0 _ T4.heap _
  exact ⟨b1, rfl, N, K, s_b1, A1, Gq4_0, Gq4_1, Gq4_2⟩
def QGt (Z : State) (a : Addr) (x1 : Addr) (h0 : Heap) (n0 : Nat) (v : Option Value) (h : Heap) (L : List Loc) : Prop := v = some (.ref x1) ∧ Fr n0 L ∧ h = h0
theorem ef_Gt (m : MethodId) (a : Addr) : entryFrame m #[(.ref a)] 1 = mkF m 0 #[.val (.ref a)] [] := by first | (simp [entryFrame, mkF, argsToLocals, Value.category]; done) | rfl | (rfl)
set_option maxRecDepth 65536 in
set_option maxHeartbeats 40000000 in
theorem rmGt (l : Launch) (Z : State) (a0 : Array Value) (hw : ∀ d ∈ tables_1, d.before a0 Z = true) (ws : List Jvm.Cond) (a : Addr) (x1 : Addr) (h0 : Heap) (n0 : Nat) (O : Old Z n0 h0) (F : Fld Z h0 a "com/example/nasute/nasute/sql/ColumnAccess$Every" "table" "Lcom/example/nasute/nasute/sql/ObjectName;" (.ref x1)) :
    MetFree l (⟨"com/example/nasute/nasute/sql/ColumnAccess$Every", "table", "()Lcom/example/nasute/nasute/sql/ObjectName;"⟩ : MethodName) (head1 (Jvm.Cond.code (⟨"com/example/nasute/nasute/sql/ColumnAccess$Every", "table", "()Lcom/example/nasute/nasute/sql/ObjectName;"⟩ : MethodName) prog_55_method_6_code 1 (some (.object "com/example/nasute/nasute/sql/ObjectName")) :: ws) ({ frames := 0, cells := 0, slots := 0, locals := 0 } : Room)) (fun as_ U => as_ = #[(.ref a)] ∧ Z.Warmed39 U.vm ∧ U.heap = h0) (fun _ _ _ _ _ => True) (fun _ U oo_ U' => ∃ vv_ LL_, oo_ = .returned vv_ ∧ QGt Z a x1 h0 n0 vv_ U'.heap LL_ ∧ FrameEnd U oo_ U' LL_ ({ frames := 0, cells := 0, slots := 0, locals := 0 } : Room).cells ({ frames := 0, cells := 0, slots := 0, locals := 0 } : Room).slots) := by
  refine MetFree.of_bodySF (plainFor_of_name pn_6) hisR ?_
  intro p e s m args below meth c s₁ Bd hml0 hP hK
  obtain ⟨rfl, hZ, hh⟩ := hP
  have hx := Bd.exec
  have hby := Bd.bytes
  have hml : c.maxLocals = 1 := hml0
  have hown : s.vm.findClass "com/example/nasute/nasute/sql/ColumnAccess$Every" = some m.cls := findClass_of_methodNamed Bd.named
  have hnm := (name_of_methodNamed Bd.named Bd.method).1
  have X0 : Stand p l e ({ frames := 0, cells := 0, slots := 0, locals := 0 } : Room) s m #[(.ref a)] below meth c s₁ [] 0 0 := Stand.of_body Bd
  have e0 : s₁.heap = h0 := by rw [← hh, Bd.state]; rfl
  have N := Fr.nil n0
  have K : Keep h0 h0 [] := Keep.refl h0 _
  refine own_go (B := s₁.setTop (mkF m 0 #[.val (.ref a)] [])) (fun t k => castTop (ef_Gt m a) k) ?_
  refine own_abs (fun P hfin => ?_)
  refine own_go (B := s₁.setTop (mkF m 1 #[.val (.ref a)] [(.ref a)])) (fun t k => ?_) ?_
  · show Steps p.tables e below (s₁.setTop (mkF m 0 #[.val (.ref a)] [])) _
    refine XS.aloadN X0.here hx rfl (hb hby d_prog_55_method_6_0) rfl rfl ?_
    show Steps p.tables e below (s₁.setTop (mkF m 1 #[.val (.ref a)] [(.ref a)])) _
    exact k
  obtain ⟨T1, X1, e1, st1⟩ := getF X0 hx hZ hown (host := "") (Or.inl (hw _ (List.mem_of_getElem? (i := 85) rfl))) Via.refl e0 F (g := (mkF m 1 #[.val (.ref a)] [(.ref a)])) rfl rfl (hb hby d_prog_55_method_6_1)
  refine own_go (B := T1.setTop (mkF m 4 #[.val (.ref a)] [(.ref x1)])) st1 ?_
  obtain ⟨fs, hr, hrun, hended, hW, hsame⟩ := X1.leave (v := some (.ref x1)) (fun h => by rw [Bd.returns] at h; cases h)
  refine ⟨_, _, own_retA X1 hx rfl Bd.returns rfl (hb hby d_prog_55_method_6_4) hr, hfin _ _ ⟨hrun, hended, _, _, rfl, ?_, ⟨_, rfl⟩, hW, hsame.mono (by decide) (by decide)⟩⟩
  show QGt Z a x1 h0 n0 _ T1.heap _
  exact ⟨rfl, N, e1⟩
def QGo (Z : State) (a : Addr) (x1 : Addr) (h0 : Heap) (n0 : Nat) (v : Option Value) (h : Heap) (L : List Loc) : Prop := v = some (.ref x1) ∧ Fr n0 L ∧ h = h0
theorem ef_Go (m : MethodId) (a : Addr) : entryFrame m #[(.ref a)] 1 = mkF m 0 #[.val (.ref a)] [] := by first | (simp [entryFrame, mkF, argsToLocals, Value.category]; done) | rfl | (rfl)
set_option maxRecDepth 65536 in
set_option maxHeartbeats 40000000 in
theorem rmGo (l : Launch) (Z : State) (a0 : Array Value) (hw : ∀ d ∈ tables_1, d.before a0 Z = true) (ws : List Jvm.Cond) (a : Addr) (x1 : Addr) (h0 : Heap) (n0 : Nat) (O : Old Z n0 h0) (F : Fld Z h0 a "com/example/nasute/nasute/sql/ColumnAccess$Every" "operation" "Lcom/example/nasute/nasute/sql/Operation;" (.ref x1)) :
    MetFree l (⟨"com/example/nasute/nasute/sql/ColumnAccess$Every", "operation", "()Lcom/example/nasute/nasute/sql/Operation;"⟩ : MethodName) (head1 (Jvm.Cond.code (⟨"com/example/nasute/nasute/sql/ColumnAccess$Every", "operation", "()Lcom/example/nasute/nasute/sql/Operation;"⟩ : MethodName) prog_55_method_7_code 1 (some (.object "com/example/nasute/nasute/sql/Operation")) :: ws) ({ frames := 0, cells := 0, slots := 0, locals := 0 } : Room)) (fun as_ U => as_ = #[(.ref a)] ∧ Z.Warmed39 U.vm ∧ U.heap = h0) (fun _ _ _ _ _ => True) (fun _ U oo_ U' => ∃ vv_ LL_, oo_ = .returned vv_ ∧ QGo Z a x1 h0 n0 vv_ U'.heap LL_ ∧ FrameEnd U oo_ U' LL_ ({ frames := 0, cells := 0, slots := 0, locals := 0 } : Room).cells ({ frames := 0, cells := 0, slots := 0, locals := 0 } : Room).slots) := by
  refine MetFree.of_bodySF (plainFor_of_name pn_6) hisR ?_
  intro p e s m args below meth c s₁ Bd hml0 hP hK
  obtain ⟨rfl, hZ, hh⟩ := hP
  have hx := Bd.exec
  have hby := Bd.bytes
  have hml : c.maxLocals = 1 := hml0
  have hown : s.vm.findClass "com/example/nasute/nasute/sql/ColumnAccess$Every" = some m.cls := findClass_of_methodNamed Bd.named
  have hnm := (name_of_methodNamed Bd.named Bd.method).1
  have X0 : Stand p l e ({ frames := 0, cells := 0, slots := 0, locals := 0 } : Room) s m #[(.ref a)] below meth c s₁ [] 0 0 := Stand.of_body Bd
  have e0 : s₁.heap = h0 := by rw [← hh, Bd.state]; rfl
  have N := Fr.nil n0
  have K : Keep h0 h0 [] := Keep.refl h0 _
  refine own_go (B := s₁.setTop (mkF m 0 #[.val (.ref a)] [])) (fun t k => castTop (ef_Go m a) k) ?_
  refine own_abs (fun P hfin => ?_)
  refine own_go (B := s₁.setTop (mkF m 1 #[.val (.ref a)] [(.ref a)])) (fun t k => ?_) ?_
  · show Steps p.tables e below (s₁.setTop (mkF m 0 #[.val (.ref a)] [])) _
    refine XS.aloadN X0.here hx rfl (hb hby d_prog_55_method_7_0) rfl rfl ?_
    show Steps p.tables e below (s₁.setTop (mkF m 1 #[.val (.ref a)] [(.ref a)])) _
    exact k
  obtain ⟨T1, X1, e1, st1⟩ := getF X0 hx hZ hown (host := "") (Or.inl (hw _ (List.mem_of_getElem? (i := 87) rfl))) Via.refl e0 F (g := (mkF m 1 #[.val (.ref a)] [(.ref a)])) rfl rfl (hb hby d_prog_55_method_7_1)
  refine own_go (B := T1.setTop (mkF m 4 #[.val (.ref a)] [(.ref x1)])) st1 ?_
  obtain ⟨fs, hr, hrun, hended, hW, hsame⟩ := X1.leave (v := some (.ref x1)) (fun h => by rw [Bd.returns] at h; cases h)
  refine ⟨_, _, own_retA X1 hx rfl Bd.returns rfl (hb hby d_prog_55_method_7_4) hr, hfin _ _ ⟨hrun, hended, _, _, rfl, ?_, ⟨_, rfl⟩, hW, hsame.mono (by decide) (by decide)⟩⟩
  show QGo Z a x1 h0 n0 _ T1.heap _
  exact ⟨rfl, N, e1⟩
def QGp (Z : State) (a : Addr) (x1 : Int32) (h0 : Heap) (n0 : Nat) (v : Option Value) (h : Heap) (L : List Loc) : Prop := v = some (.int x1) ∧ Fr n0 L ∧ h = h0
theorem ef_Gp (m : MethodId) (a : Addr) : entryFrame m #[(.ref a)] 1 = mkF m 0 #[.val (.ref a)] [] := by first | (simp [entryFrame, mkF, argsToLocals, Value.category]; done) | rfl | (rfl)
set_option maxRecDepth 65536 in
set_option maxHeartbeats 40000000 in
theorem rmGp (l : Launch) (Z : State) (a0 : Array Value) (hw : ∀ d ∈ tables_1, d.before a0 Z = true) (ws : List Jvm.Cond) (a : Addr) (x1 : Int32) (h0 : Heap) (n0 : Nat) (O : Old Z n0 h0) (F : Fld Z h0 a "com/example/nasute/nasute/sql/ColumnAccess$Every" "position" "I" (.int x1)) :
    MetFree l (⟨"com/example/nasute/nasute/sql/ColumnAccess$Every", "position", "()I"⟩ : MethodName) (head1 (Jvm.Cond.code (⟨"com/example/nasute/nasute/sql/ColumnAccess$Every", "position", "()I"⟩ : MethodName) prog_55_method_8_code 1 (some .int) :: ws) ({ frames := 0, cells := 0, slots := 0, locals := 0 } : Room)) (fun as_ U => as_ = #[(.ref a)] ∧ Z.Warmed39 U.vm ∧ U.heap = h0) (fun _ _ _ _ _ => True) (fun _ U oo_ U' => ∃ vv_ LL_, oo_ = .returned vv_ ∧ QGp Z a x1 h0 n0 vv_ U'.heap LL_ ∧ FrameEnd U oo_ U' LL_ ({ frames := 0, cells := 0, slots := 0, locals := 0 } : Room).cells ({ frames := 0, cells := 0, slots := 0, locals := 0 } : Room).slots) := by
  refine MetFree.of_bodySF (plainFor_of_name pn_6) hisR ?_
  intro p e s m args below meth c s₁ Bd hml0 hP hK
  obtain ⟨rfl, hZ, hh⟩ := hP
  have hx := Bd.exec
  have hby := Bd.bytes
  have hml : c.maxLocals = 1 := hml0
  have hown : s.vm.findClass "com/example/nasute/nasute/sql/ColumnAccess$Every" = some m.cls := findClass_of_methodNamed Bd.named
  have hnm := (name_of_methodNamed Bd.named Bd.method).1
  have X0 : Stand p l e ({ frames := 0, cells := 0, slots := 0, locals := 0 } : Room) s m #[(.ref a)] below meth c s₁ [] 0 0 := Stand.of_body Bd
  have e0 : s₁.heap = h0 := by rw [← hh, Bd.state]; rfl
  have N := Fr.nil n0
  have K : Keep h0 h0 [] := Keep.refl h0 _
  refine own_go (B := s₁.setTop (mkF m 0 #[.val (.ref a)] [])) (fun t k => castTop (ef_Gp m a) k) ?_
  refine own_abs (fun P hfin => ?_)
  refine own_go (B := s₁.setTop (mkF m 1 #[.val (.ref a)] [(.ref a)])) (fun t k => ?_) ?_
  · show Steps p.tables e below (s₁.setTop (mkF m 0 #[.val (.ref a)] [])) _
    refine XS.aloadN X0.here hx rfl (hb hby d_prog_55_method_8_0) rfl rfl ?_
    show Steps p.tables e below (s₁.setTop (mkF m 1 #[.val (.ref a)] [(.ref a)])) _
    exact k
  obtain ⟨T1, X1, e1, st1⟩ := getF X0 hx hZ hown (host := "") (Or.inl (hw _ (List.mem_of_getElem? (i := 89) rfl))) Via.refl e0 F (g := (mkF m 1 #[.val (.ref a)] [(.ref a)])) rfl rfl (hb hby d_prog_55_method_8_1)
  refine own_go (B := T1.setTop (mkF m 4 #[.val (.ref a)] [(.int x1)])) st1 ?_
  obtain ⟨fs, hr, hrun, hended, hW, hsame⟩ := X1.leave (v := some (.int x1)) (fun h => by rw [Bd.returns] at h; cases h)
  refine ⟨_, _, retI X1 hx Bd.returns (hb hby d_prog_55_method_8_4) hr, hfin _ _ ⟨hrun, hended, _, _, rfl, ?_, ⟨_, rfl⟩, hW, hsame.mono (by decide) (by decide)⟩⟩
  show QGp Z a x1 h0 n0 _ T1.heap _
  exact ⟨rfl, N, e1⟩
def Q0 (Z : State) (p1 : Int32) (p2 : Int32) (p3 : Int32) (p4 : Int32) (w0 : Addr) (w1 : Addr) (w2 : Addr) (w3 : Addr) (w4 : Addr) (w5 : Addr) (w6 : Addr) (zc : Int32) (h0 : Heap) (n0 : Nat) (v : Option Value) (h : Heap) (L : List Loc) : Prop := v = some (.int 1) ∧ Fr n0 L
theorem ef_0 (m : MethodId) (p1 : Int32) (p2 : Int32) (p3 : Int32) (p4 : Int32) : entryFrame m #[(.int p1), (.int p2), (.int p3), (.int p4)] maxLocals = mkF m 0 #[.val (.int p1), .val (.int p2), .val (.int p3), .val (.int p4), .unset, .unset, .unset, .unset, .unset, .unset, .unset, .unset] [] := by first | (simp [entryFrame, mkF, argsToLocals, Value.category, maxLocals]; done) | rfl | (rfl)
set_option maxRecDepth 65536 in
set_option maxHeartbeats 40000000 in
theorem rm0 (l : Launch) (Z : State) (a0 : Array Value) (hw : ∀ d ∈ tables_1, d.before a0 Z = true) (ws : List Jvm.Cond) (p1 : Int32) (p2 : Int32) (p3 : Int32) (p4 : Int32) (w0 : Addr) (w1 : Addr) (w2 : Addr) (w3 : Addr) (w4 : Addr) (w5 : Addr) (w6 : Addr) (zc : Int32) (h0 : Heap) (n0 : Nat) (O : Old Z n0 h0) (S_0 : Sta Z Z.heap "com/example/nasute/nasute/sql/Operation" "SELECT" "Lcom/example/nasute/nasute/sql/Operation;" (.ref w0)) (S_1 : Sta Z Z.heap "com/example/nasute/nasute/sql/Operation" "INSERT" "Lcom/example/nasute/nasute/sql/Operation;" (.ref w1)) (S_2 : Sta Z Z.heap "com/example/nasute/nasute/sql/Operation" "UPDATE" "Lcom/example/nasute/nasute/sql/Operation;" (.ref w2)) (S_3 : Sta Z Z.heap "com/example/nasute/nasute/sql/Operation" "DELETE" "Lcom/example/nasute/nasute/sql/Operation;" (.ref w3)) (S_4 : Sta Z Z.heap "com/example/nasute/nasute/sql/Operation" "CREATE" "Lcom/example/nasute/nasute/sql/Operation;" (.ref w4)) (S_5 : Sta Z Z.heap "com/example/nasute/nasute/sql/Operation" "DROP" "Lcom/example/nasute/nasute/sql/Operation;" (.ref w5)) (S_6 : Sta Z Z.heap "com/example/nasute/nasute/sql/Operation" "ALTER" "Lcom/example/nasute/nasute/sql/Operation;" (.ref w6)) (S_C : Sta Z Z.heap "java/lang/String" "COMPACT_STRINGS" "Z" (.int zc)) (hcs : ¬ zc = (0 : Int32)) :
    MetFree l x (head1 (Jvm.Cond.code x code maxLocals ret :: ws) room_1) (fun as_ U => as_ = #[(.int p1), (.int p2), (.int p3), (.int p4)] ∧ Z.Warmed39 U.vm ∧ U.heap = h0) (fun _ _ _ _ _ => True) (fun _ U oo_ U' => ∃ vv_ LL_, oo_ = .returned vv_ ∧ Q0 Z p1 p2 p3 p4 w0 w1 w2 w3 w4 w5 w6 zc h0 n0 vv_ U'.heap LL_ ∧ ReturnedEndW U oo_ U' LL_ room_1.cells room_1.slots) := by
  refine MetFree.of_bodySF (plainFor_of_name pn_4) hisR ?_
  intro p e s m args below meth c s₁ Bd hml0 hP hK
  obtain ⟨rfl, hZ, hh⟩ := hP
  have hx := Bd.exec
  have hby := Bd.bytes
  have hml : c.maxLocals = 12 := hml0
  have hown : s.vm.findClass "com/example/nasute/nasute/sql/EveryAtPinLaw" = some m.cls := findClass_of_methodNamed Bd.named
  have hnm := (name_of_methodNamed Bd.named Bd.method).1
  have X0 : Stand p l e room_1 (s.setVm s.vm) m #[(.int p1), (.int p2), (.int p3), (.int p4)] below meth c s₁ [] 0 0 := Stand.of_body Bd
  have e0 : s₁.heap = h0 := by rw [← hh, Bd.state]; rfl
  have N := Fr.nil n0
  have hown : (s.setVm s.vm).vm.findClass "com/example/nasute/nasute/sql/EveryAtPinLaw" = some m.cls := hown
  have hZ : Z.Warmed39 (s.setVm s.vm).vm := hZ
  have hS : s.Since s.vm h0.size := (State.WarmedH.refl s).since _
  have hk : h0.size ≤ h0.size := Nat.le_refl _
  refine own_go (B := s₁.setTop (mkF m 0 #[.val (.int p1), .val (.int p2), .val (.int p3), .val (.int p4), .unset, .unset, .unset, .unset, .unset, .unset, .unset, .unset] [])) (fun t k => castTop (ef_0 m p1 p2 p3 p4) k) ?_
  refine own_abs (fun P hfin => ?_)
  refine own_go (B := s₁.setTop (mkF m 7 #[.val (.int p1), .val (.int p2), .val (.int p3), .val (.int p4), .unset, .unset, .unset, .unset, .unset, .unset, .unset, .unset] [(.int ((p1 &&& (2147483647 : Int32)) % (7 : Int32)))])) (fun t k => ?_) ?_
  · show Steps p.tables e below (s₁.setTop (mkF m 0 #[.val (.int p1), .val (.int p2), .val (.int p3), .val (.int p4), .unset, .unset, .unset, .unset, .unset, .unset, .unset, .unset] [])) _
    refine XS.iloadN X0.here hx rfl (hb hby at_0) rfl ?_
    show Steps p.tables e below (s₁.setTop (mkF m 1 #[.val (.int p1), .val (.int p2), .val (.int p3), .val (.int p4), .unset, .unset, .unset, .unset, .unset, .unset, .unset, .unset] [(.int p1)])) _
    refine X0.ldcInt hx hown (mvT hZ (hw _ (List.mem_of_getElem? (i := 0) rfl))) (g := (mkF m 1 #[.val (.int p1), .val (.int p2), .val (.int p3), .val (.int p4), .unset, .unset, .unset, .unset, .unset, .unset, .unset, .unset] [(.int p1)])) rfl (hb hby at_1) _ ?_
    show Steps p.tables e below (s₁.setTop (mkF m 3 #[.val (.int p1), .val (.int p2), .val (.int p3), .val (.int p4), .unset, .unset, .unset, .unset, .unset, .unset, .unset, .unset] [(.int (2147483647 : Int32)), (.int p1)])) _
    refine XS.iand X0.here hx rfl (hb hby at_3) rfl ?_
    show Steps p.tables e below (s₁.setTop (mkF m 4 #[.val (.int p1), .val (.int p2), .val (.int p3), .val (.int p4), .unset, .unset, .unset, .unset, .unset, .unset, .unset, .unset] [(.int (p1 &&& (2147483647 : Int32)))])) _
    refine XS.bipush X0.here hx rfl (hb hby at_4) ?_
    show Steps p.tables e below (s₁.setTop (mkF m 6 #[.val (.int p1), .val (.int p2), .val (.int p3), .val (.int p4), .unset, .unset, .unset, .unset, .unset, .unset, .unset, .unset] [(.int (7 : Int32)), (.int (p1 &&& (2147483647 : Int32)))])) _
    refine Jvm.RoadKit.iremM (g := (mkF m 6 #[.val (.int p1), .val (.int p2), .val (.int p3), .val (.int p4), .unset, .unset, .unset, .unset, .unset, .unset, .unset, .unset] [(.int (7 : Int32)), (.int (p1 &&& (2147483647 : Int32)))])) X0 hx rfl (hb hby at_6) rfl (by decide) ?_
    show Steps p.tables e below (s₁.setTop (mkF m 7 #[.val (.int p1), .val (.int p2), .val (.int p3), .val (.int p4), .unset, .unset, .unset, .unset, .unset, .unset, .unset, .unset] [(.int ((p1 &&& (2147483647 : Int32)) % (7 : Int32)))])) _
    exact k
  -- pc 7: com/example/nasute/nasute/sql/EveryAtPinLaw.op
  obtain ⟨_, _, ⟨T1, L1, k1, n1⟩, -, X1, ⟨Lc1, hQ1, l1, y1, z1⟩, st1⟩ := Jvm.LawKit.callS X0 hx (y := (⟨"com/example/nasute/nasute/sql/EveryAtPinLaw", "op", "(I)Lcom/example/nasute/nasute/sql/Operation;"⟩ : MethodName)) hown (mvT hZ (hw _ (List.mem_of_getElem? (i := 1) rfl))) (mvT hZ (hw _ (List.mem_of_getElem? (i := 2) rfl))) (mvT hZ (hw _ (List.mem_of_getElem? (i := 3) rfl))) (mvT hZ (hw _ (List.mem_of_getElem? (i := 4) rfl))) (by decide) (backOf (W := 0) (rmOp l Z a0 hw [] ((p1 &&& (2147483647 : Int32)) % (7 : Int32)) w0 w1 w2 w3 w4 w5 w6 h0 n0 O S_0 S_1 S_2 S_3 S_4 S_5 S_6) hZ (hw _ (List.mem_of_getElem? (i := 4) rfl)) (hw _ (List.mem_of_getElem? (i := 3) rfl)) (by decide) (by decide)) (g := (mkF m 7 #[.val (.int p1), .val (.int p2), .val (.int p3), .val (.int p4), .unset, .unset, .unset, .unset, .unset, .unset, .unset, .unset] [(.int ((p1 &&& (2147483647 : Int32)) % (7 : Int32)))])) rfl (by rw [hml]; rfl) (argsL := [(.int ((p1 &&& (2147483647 : Int32)) % (7 : Int32)))]) (rest := []) (lenOf pd_6 rfl) rfl (by show 2 * 0 + _ ≤ _; exact Nat.le_of_eq rfl) (hb hby at_7) (fun _ hWm => ⟨rfl, e0, (by decide : 0 + 0 ≤ _), (by decide : 0 + 0 ≤ _)⟩)
  dsimp only [Pt.U, Pt.locs, Pt.cells, Pt.slots] at X1 l1 y1 z1 st1 hQ1
  subst l1 y1 z1
  obtain ⟨r1, rfl, Nq1, Kq1⟩ := hQ1
  replace N := Fr.app N Nq1
  refine own_go (B := T1.setTop (mkF m 10 #[.val (.int p1), .val (.int p2), .val (.int p3), .val (.int p4), .unset, .unset, .unset, .unset, .unset, .unset, .unset, .unset] [(.ref r1)])) st1 ?_
  refine own_go (B := T1.setTop (mkF m 12 #[.val (.int p1), .val (.int p2), .val (.int p3), .val (.int p4), .val (.ref r1), .unset, .unset, .unset, .unset, .unset, .unset, .unset] [])) (fun t k => ?_) ?_
  · show Steps p.tables e below (T1.setTop (mkF m 10 #[.val (.int p1), .val (.int p2), .val (.int p3), .val (.int p4), .unset, .unset, .unset, .unset, .unset, .unset, .unset, .unset] [(.ref r1)])) _
    refine XS.astore X1.here hx rfl (hb hby at_10) rfl rfl (l' := #[.val (.int p1), .val (.int p2), .val (.int p3), .val (.int p4), .val (.ref r1), .unset, .unset, .unset, .unset, .unset, .unset, .unset]) rfl ?_
    show Steps p.tables e below (T1.setTop (mkF m 12 #[.val (.int p1), .val (.int p2), .val (.int p3), .val (.int p4), .val (.ref r1), .unset, .unset, .unset, .unset, .unset, .unset, .unset] [])) _
    exact k
  by_cases kn : p1 < (0 : Int32)
  · refine own_go (B := T1.setTop (mkF m 24 #[.val (.int p1), .val (.int p2), .val (.int p3), .val (.int p4), .val (.ref r1), .val (.int (1 : Int32)), .unset, .unset, .unset, .unset, .unset, .unset] [(.int (2 : Int32))])) (fun t k => ?_) ?_
    · show Steps p.tables e below (T1.setTop (mkF m 12 #[.val (.int p1), .val (.int p2), .val (.int p3), .val (.int p4), .val (.ref r1), .unset, .unset, .unset, .unset, .unset, .unset, .unset] [])) _
      refine XS.iloadN X1.here hx rfl (hb hby at_12) rfl ?_
      show Steps p.tables e below (T1.setTop (mkF m 13 #[.val (.int p1), .val (.int p2), .val (.int p3), .val (.int p4), .val (.ref r1), .unset, .unset, .unset, .unset, .unset, .unset, .unset] [(.int p1)])) _
      refine XS.ifNo X1.here hx rfl (hb hby at_13) rfl ((if0 _ _).trans (tlt kn).2.1) ?_
      show Steps p.tables e below (T1.setTop (mkF m 16 #[.val (.int p1), .val (.int p2), .val (.int p3), .val (.int p4), .val (.ref r1), .unset, .unset, .unset, .unset, .unset, .unset, .unset] [])) _
      refine XS.iconst X1.here hx rfl (hb hby at_16) ?_
      show Steps p.tables e below (T1.setTop (mkF m 17 #[.val (.int p1), .val (.int p2), .val (.int p3), .val (.int p4), .val (.ref r1), .unset, .unset, .unset, .unset, .unset, .unset, .unset] [(.int (1 : Int32))])) _
      refine XS.goto X1.here hx rfl (pc0 := 17) (pc' := 21) rfl (hb hby at_17) (by decide) (by decide) ?_
      show Steps p.tables e below (T1.setTop (mkF m 21 #[.val (.int p1), .val (.int p2), .val (.int p3), .val (.int p4), .val (.ref r1), .unset, .unset, .unset, .unset, .unset, .unset, .unset] [(.int (1 : Int32))])) _
      refine XS.istore X1.here hx rfl (hb hby at_21) rfl (l' := #[.val (.int p1), .val (.int p2), .val (.int p3), .val (.int p4), .val (.ref r1), .val (.int (1 : Int32)), .unset, .unset, .unset, .unset, .unset, .unset]) rfl ?_
      show Steps p.tables e below (T1.setTop (mkF m 23 #[.val (.int p1), .val (.int p2), .val (.int p3), .val (.int p4), .val (.ref r1), .val (.int (1 : Int32)), .unset, .unset, .unset, .unset, .unset, .unset] [])) _
      refine XS.iconst X1.here hx rfl (hb hby at_23) ?_
      show Steps p.tables e below (T1.setTop (mkF m 24 #[.val (.int p1), .val (.int p2), .val (.int p3), .val (.int p4), .val (.ref r1), .val (.int (1 : Int32)), .unset, .unset, .unset, .unset, .unset, .unset] [(.int (2 : Int32))])) _
      exact k
    obtain ⟨T2, h2, k2, X2, e2, E2, A2, G2, st2⟩ := newPE X1 hx hZ (hw _ (List.mem_of_getElem? (i := 8) rfl)) Kq1 (g := (mkF m 24 #[.val (.int p1), .val (.int p2), .val (.int p3), .val (.int p4), .val (.ref r1), .val (.int (1 : Int32)), .unset, .unset, .unset, .unset, .unset, .unset] [(.int (2 : Int32))])) rfl (hb hby at_24) rfl (by decide) (cap := 2) (by decide) (by decide) (by decide) (by decide) (ad := "[C") (by decide)
    obtain ⟨b2, g2⟩ : ∃ z, z = h0.size := ⟨_, rfl⟩
    rw [← g2] at A2 G2 st2
    have g_b2 : n0 ≤ b2 := Nat.le_trans (own_oldsz O) (Nat.le_of_eq g2.symm)
    replace O := O.ext E2
    replace hk := Nat.le_trans hk E2.1
    have V2 : Arv Z h2 b2 k2 .char (2 : Int32) [(.int (0 : Int32)), (.int (0 : Int32))] (.int (0 : Int32)) := (Arv.new A2 (by decide)).pad (pad_rep [] (.int (0 : Int32)) 2)
    refine own_go (B := T2.setTop (mkF m 26 #[.val (.int p1), .val (.int p2), .val (.int p3), .val (.int p4), .val (.ref r1), .val (.int (1 : Int32)), .unset, .unset, .unset, .unset, .unset, .unset] [(.ref b2)])) st2 ?_
    refine own_go (B := T2.setTop (mkF m 34 #[.val (.int p1), .val (.int p2), .val (.int p3), .val (.int p4), .val (.ref r1), .val (.int (1 : Int32)), .unset, .unset, .unset, .unset, .unset, .unset] [(.int ((p2 &&& (255 : Int32)).toUInt32.toUInt16.toUInt32.toInt32)), (.int (0 : Int32)), (.ref b2), (.ref b2)])) (fun t k => ?_) ?_
    · show Steps p.tables e below (T2.setTop (mkF m 26 #[.val (.int p1), .val (.int p2), .val (.int p3), .val (.int p4), .val (.ref r1), .val (.int (1 : Int32)), .unset, .unset, .unset, .unset, .unset, .unset] [(.ref b2)])) _
      refine XS.dup X2.here hx rfl (hb hby at_26) rfl rfl ?_
      show Steps p.tables e below (T2.setTop (mkF m 27 #[.val (.int p1), .val (.int p2), .val (.int p3), .val (.int p4), .val (.ref r1), .val (.int (1 : Int32)), .unset, .unset, .unset, .unset, .unset, .unset] [(.ref b2), (.ref b2)])) _
      refine XS.iconst X2.here hx rfl (hb hby at_27) ?_
      show Steps p.tables e below (T2.setTop (mkF m 28 #[.val (.int p1), .val (.int p2), .val (.int p3), .val (.int p4), .val (.ref r1), .val (.int (1 : Int32)), .unset, .unset, .unset, .unset, .unset, .unset] [(.int (0 : Int32)), (.ref b2), (.ref b2)])) _
      refine XS.iloadN X2.here hx rfl (hb hby at_28) rfl ?_
      show Steps p.tables e below (T2.setTop (mkF m 29 #[.val (.int p1), .val (.int p2), .val (.int p3), .val (.int p4), .val (.ref r1), .val (.int (1 : Int32)), .unset, .unset, .unset, .unset, .unset, .unset] [(.int p2), (.int (0 : Int32)), (.ref b2), (.ref b2)])) _
      refine XS.sipush X2.here hx rfl (hb hby at_29) ?_
      show Steps p.tables e below (T2.setTop (mkF m 32 #[.val (.int p1), .val (.int p2), .val (.int p3), .val (.int p4), .val (.ref r1), .val (.int (1 : Int32)), .unset, .unset, .unset, .unset, .unset, .unset] [(.int (255 : Int32)), (.int p2), (.int (0 : Int32)), (.ref b2), (.ref b2)])) _
      refine XS.iand X2.here hx rfl (hb hby at_32) rfl ?_
      show Steps p.tables e below (T2.setTop (mkF m 33 #[.val (.int p1), .val (.int p2), .val (.int p3), .val (.int p4), .val (.ref r1), .val (.int (1 : Int32)), .unset, .unset, .unset, .unset, .unset, .unset] [(.int (p2 &&& (255 : Int32))), (.int (0 : Int32)), (.ref b2), (.ref b2)])) _
      refine XS.i2c X2.here hx rfl (hb hby at_33) rfl ?_
      show Steps p.tables e below (T2.setTop (mkF m 34 #[.val (.int p1), .val (.int p2), .val (.int p3), .val (.int p4), .val (.ref r1), .val (.int (1 : Int32)), .unset, .unset, .unset, .unset, .unset, .unset] [(.int ((p2 &&& (255 : Int32)).toUInt32.toUInt16.toUInt32.toInt32)), (.int (0 : Int32)), (.ref b2), (.ref b2)])) _
      exact k
    rw [i2c_mask]
    obtain ⟨ca, hca⟩ : ∃ z : Int32, z = (p2 &&& (255 : Int32)) := ⟨_, rfl⟩
    rw [← hca]
    have bca : ¬ ca < 0 ∧ ¬ (255 : Int32) < ca := by rw [hca]; exact own_b255 _
    have cca : nar .char ca = ca := by rw [hca]; exact i2c_mask _
    obtain ⟨cl3, Ar3, q3, Sz3, Nn3, Hs3, Gt3⟩ := V2
    have hin3 : ¬ ((0 : Int32) < 0 ∨ cl3.slots.size ≤ ((0 : Int32)).toNatClampNeg) := inb_of Sz3 ⟨by decide, by decide⟩
    obtain ⟨T3, h3, X3, e3, W3, st3⟩ := stC X2 hx hZ e2 Ar3 (j := (0 : Int32)) hin3 (g := (mkF m 34 #[.val (.int p1), .val (.int p2), .val (.int p3), .val (.int p4), .val (.ref r1), .val (.int (1 : Int32)), .unset, .unset, .unset, .unset, .unset, .unset] [(.int ca), (.int (0 : Int32)), (.ref b2), (.ref b2)])) rfl rfl (hb hby at_34)
    have V3 := Arv.set Ar3 q3 Sz3 Nn3 Hs3 Gt3 (fits_nar_char _) W3 0 rfl (Nat.le_of_ble_eq_true rfl)
    rw [cca] at V3
    have V3 : Arv Z h3 b2 k2 .char (2 : Int32) [(.int ca), (.int (0 : Int32))] (.int (0 : Int32)) := V3
    replace G2 := G2.wr W3
    replace O := O.wr W3 g_b2
    replace hk := Nat.le_trans hk (Keep.of_wr W3).1
    replace N := Fr.snoc X3 N g_b2
    refine own_go (B := T3.setTop (mkF m 35 #[.val (.int p1), .val (.int p2), .val (.int p3), .val (.int p4), .val (.ref r1), .val (.int (1 : Int32)), .unset, .unset, .unset, .unset, .unset, .unset] [(.ref b2)])) st3 ?_
    refine own_go (B := T3.setTop (mkF m 46 #[.val (.int p1), .val (.int p2), .val (.int p3), .val (.int p4), .val (.ref r1), .val (.int (1 : Int32)), .unset, .unset, .unset, .unset, .unset, .unset] [(.int ((((p2.toUInt32 >>> ((8 : Int32) &&& 31).toUInt32).toInt32) &&& (255 : Int32)).toUInt32.toUInt16.toUInt32.toInt32)), (.int (1 : Int32)), (.ref b2), (.ref b2)])) (fun t k => ?_) ?_
    · show Steps p.tables e below (T3.setTop (mkF m 35 #[.val (.int p1), .val (.int p2), .val (.int p3), .val (.int p4), .val (.ref r1), .val (.int (1 : Int32)), .unset, .unset, .unset, .unset, .unset, .unset] [(.ref b2)])) _
      refine XS.dup X3.here hx rfl (hb hby at_35) rfl rfl ?_
      show Steps p.tables e below (T3.setTop (mkF m 36 #[.val (.int p1), .val (.int p2), .val (.int p3), .val (.int p4), .val (.ref r1), .val (.int (1 : Int32)), .unset, .unset, .unset, .unset, .unset, .unset] [(.ref b2), (.ref b2)])) _
      refine XS.iconst X3.here hx rfl (hb hby at_36) ?_
      show Steps p.tables e below (T3.setTop (mkF m 37 #[.val (.int p1), .val (.int p2), .val (.int p3), .val (.int p4), .val (.ref r1), .val (.int (1 : Int32)), .unset, .unset, .unset, .unset, .unset, .unset] [(.int (1 : Int32)), (.ref b2), (.ref b2)])) _
      refine XS.iloadN X3.here hx rfl (hb hby at_37) rfl ?_
      show Steps p.tables e below (T3.setTop (mkF m 38 #[.val (.int p1), .val (.int p2), .val (.int p3), .val (.int p4), .val (.ref r1), .val (.int (1 : Int32)), .unset, .unset, .unset, .unset, .unset, .unset] [(.int p2), (.int (1 : Int32)), (.ref b2), (.ref b2)])) _
      refine XS.bipush X3.here hx rfl (hb hby at_38) ?_
      show Steps p.tables e below (T3.setTop (mkF m 40 #[.val (.int p1), .val (.int p2), .val (.int p3), .val (.int p4), .val (.ref r1), .val (.int (1 : Int32)), .unset, .unset, .unset, .unset, .unset, .unset] [(.int (8 : Int32)), (.int p2), (.int (1 : Int32)), (.ref b2), (.ref b2)])) _
      refine XS.iushr X3.here hx rfl (hb hby at_40) rfl ?_
      show Steps p.tables e below (T3.setTop (mkF m 41 #[.val (.int p1), .val (.int p2), .val (.int p3), .val (.int p4), .val (.ref r1), .val (.int (1 : Int32)), .unset, .unset, .unset, .unset, .unset, .unset] [(.int ((p2.toUInt32 >>> ((8 : Int32) &&& 31).toUInt32).toInt32)), (.int (1 : Int32)), (.ref b2), (.ref b2)])) _
      refine XS.sipush X3.here hx rfl (hb hby at_41) ?_
      show Steps p.tables e below (T3.setTop (mkF m 44 #[.val (.int p1), .val (.int p2), .val (.int p3), .val (.int p4), .val (.ref r1), .val (.int (1 : Int32)), .unset, .unset, .unset, .unset, .unset, .unset] [(.int (255 : Int32)), (.int ((p2.toUInt32 >>> ((8 : Int32) &&& 31).toUInt32).toInt32)), (.int (1 : Int32)), (.ref b2), (.ref b2)])) _
      refine XS.iand X3.here hx rfl (hb hby at_44) rfl ?_
      show Steps p.tables e below (T3.setTop (mkF m 45 #[.val (.int p1), .val (.int p2), .val (.int p3), .val (.int p4), .val (.ref r1), .val (.int (1 : Int32)), .unset, .unset, .unset, .unset, .unset, .unset] [(.int (((p2.toUInt32 >>> ((8 : Int32) &&& 31).toUInt32).toInt32) &&& (255 : Int32))), (.int (1 : Int32)), (.ref b2), (.ref b2)])) _
      refine XS.i2c X3.here hx rfl (hb hby at_45) rfl ?_
      show Steps p.tables e below (T3.setTop (mkF m 46 #[.val (.int p1), .val (.int p2), .val (.int p3), .val (.int p4), .val (.ref r1), .val (.int (1 : Int32)), .unset, .unset, .unset, .unset, .unset, .unset] [(.int ((((p2.toUInt32 >>> ((8 : Int32) &&& 31).toUInt32).toInt32) &&& (255 : Int32)).toUInt32.toUInt16.toUInt32.toInt32)), (.int (1 : Int32)), (.ref b2), (.ref b2)])) _
      exact k
    rw [i2c_mask]
    obtain ⟨cb, hcb⟩ : ∃ z : Int32, z = (((p2.toUInt32 >>> ((8 : Int32) &&& 31).toUInt32).toInt32) &&& (255 : Int32)) := ⟨_, rfl⟩
    rw [← hcb]
    have bcb : ¬ cb < 0 ∧ ¬ (255 : Int32) < cb := by rw [hcb]; exact own_b255 _
    have ccb : nar .char cb = cb := by rw [hcb]; exact i2c_mask _
    obtain ⟨cl4, Ar4, q4, Sz4, Nn4, Hs4, Gt4⟩ := V3
    have hin4 : ¬ ((1 : Int32) < 0 ∨ cl4.slots.size ≤ ((1 : Int32)).toNatClampNeg) := inb_of Sz4 ⟨by decide, by decide⟩
    obtain ⟨T4, h4, X4, e4, W4, st4⟩ := stC X3 hx hZ e3 Ar4 (j := (1 : Int32)) hin4 (g := (mkF m 46 #[.val (.int p1), .val (.int p2), .val (.int p3), .val (.int p4), .val (.ref r1), .val (.int (1 : Int32)), .unset, .unset, .unset, .unset, .unset, .unset] [(.int cb), (.int (1 : Int32)), (.ref b2), (.ref b2)])) rfl rfl (hb hby at_46)
    have V4 := Arv.set Ar4 q4 Sz4 Nn4 Hs4 Gt4 (fits_nar_char _) W4 1 rfl (Nat.le_of_ble_eq_true rfl)
    rw [ccb] at V4
    have V4 : Arv Z h4 b2 k2 .char (2 : Int32) [(.int ca), (.int cb)] (.int (0 : Int32)) := V4
    replace G2 := G2.wr W4
    replace O := O.wr W4 g_b2
    replace hk := Nat.le_trans hk (Keep.of_wr W4).1
    replace N := Fr.snoc X4 N g_b2
    refine own_go (B := T4.setTop (mkF m 47 #[.val (.int p1), .val (.int p2), .val (.int p3), .val (.int p4), .val (.ref r1), .val (.int (1 : Int32)), .unset, .unset, .unset, .unset, .unset, .unset] [(.ref b2)])) st4 ?_
    refine own_go (B := T4.setTop (mkF m 49 #[.val (.int p1), .val (.int p2), .val (.int p3), .val (.int p4), .val (.ref r1), .val (.int (1 : Int32)), .val (.ref b2), .unset, .unset, .unset, .unset, .unset] [])) (fun t k => ?_) ?_
    · show Steps p.tables e below (T4.setTop (mkF m 47 #[.val (.int p1), .val (.int p2), .val (.int p3), .val (.int p4), .val (.ref r1), .val (.int (1 : Int32)), .unset, .unset, .unset, .unset, .unset, .unset] [(.ref b2)])) _
      refine XS.astore X4.here hx rfl (hb hby at_47) rfl rfl (l' := #[.val (.int p1), .val (.int p2), .val (.int p3), .val (.int p4), .val (.ref r1), .val (.int (1 : Int32)), .val (.ref b2), .unset, .unset, .unset, .unset, .unset]) rfl ?_
      show Steps p.tables e below (T4.setTop (mkF m 49 #[.val (.int p1), .val (.int p2), .val (.int p3), .val (.int p4), .val (.ref r1), .val (.int (1 : Int32)), .val (.ref b2), .unset, .unset, .unset, .unset, .unset] [])) _
      exact k
    obtain ⟨T5, h5, X5, e5, E5, A5, D5, -, st5⟩ := newO X4 hx hZ hown (hw _ (List.mem_of_getElem? (i := 9) rfl)) (hw _ (List.mem_of_getElem? (i := 10) rfl)) (hw _ (List.mem_of_getElem? (i := 11) rfl)) e4 (g := (mkF m 49 #[.val (.int p1), .val (.int p2), .val (.int p3), .val (.int p4), .val (.ref r1), .val (.int (1 : Int32)), .val (.ref b2), .unset, .unset, .unset, .unset, .unset] [])) rfl (hb hby at_49) (by decide) (by decide)
    obtain ⟨b5, g5⟩ : ∃ z, z = h4.size := ⟨_, rfl⟩
    rw [← g5] at A5 D5 st5
    have lt_b2_b5 : b2 < b5 := Nat.lt_of_lt_of_le G2.lt (Nat.le_of_eq g5.symm)
    have g_b5 : n0 ≤ b5 := Nat.le_trans (own_oldsz O) (Nat.le_of_eq g5.symm)
    replace G2 := G2.ext E5
    replace V4 := V4.ext E5
    replace O := O.ext E5
    replace hk := Nat.le_trans hk E5.1
    have F5_coder : Fld Z h5 b5 "java/lang/String" "coder" "B" (.int (0 : Int32)) := D5 (Or.inr (hw _ (List.mem_of_getElem? (i := 35) rfl))) (ty := .byte) (by decide)
    have F5_value : Fld Z h5 b5 "java/lang/String" "value" "[B" .null := D5 (Or.inr (hw _ (List.mem_of_getElem? (i := 37) rfl))) (ty := (.array .byte)) (by decide)
    refine own_go (B := T5.setTop (mkF m 52 #[.val (.int p1), .val (.int p2), .val (.int p3), .val (.int p4), .val (.ref r1), .val (.int (1 : Int32)), .val (.ref b2), .unset, .unset, .unset, .unset, .unset] [(.ref b5)])) st5 ?_
    refine own_go (B := T5.setTop (mkF m 55 #[.val (.int p1), .val (.int p2), .val (.int p3), .val (.int p4), .val (.ref r1), .val (.int (1 : Int32)), .val (.ref b2), .unset, .unset, .unset, .unset, .unset] [(.ref b2), (.ref b5), (.ref b5)])) (fun t k => ?_) ?_
    · show Steps p.tables e below (T5.setTop (mkF m 52 #[.val (.int p1), .val (.int p2), .val (.int p3), .val (.int p4), .val (.ref r1), .val (.int (1 : Int32)), .val (.ref b2), .unset, .unset, .unset, .unset, .unset] [(.ref b5)])) _
      refine XS.dup X5.here hx rfl (hb hby at_52) rfl rfl ?_
      show Steps p.tables e below (T5.setTop (mkF m 53 #[.val (.int p1), .val (.int p2), .val (.int p3), .val (.int p4), .val (.ref r1), .val (.int (1 : Int32)), .val (.ref b2), .unset, .unset, .unset, .unset, .unset] [(.ref b5), (.ref b5)])) _
      refine XS.aload X5.here hx rfl (hb hby at_53) rfl rfl ?_
      show Steps p.tables e below (T5.setTop (mkF m 55 #[.val (.int p1), .val (.int p2), .val (.int p3), .val (.int p4), .val (.ref r1), .val (.int (1 : Int32)), .val (.ref b2), .unset, .unset, .unset, .unset, .unset] [(.ref b2), (.ref b5), (.ref b5)])) _
      exact k
    have := bca
    have := bcb
    have hws : ∀ d ∈ StrChars.Road.words, d.before a0 Z = true := fun d hd => hw d ((by decide +kernel : ∀ d ∈ StrChars.Road.words, d ∈ tables_1) d hd)
    -- pc 55: java/lang/String.<init>
    obtain ⟨_, _, ⟨T6, L6, k6, n6⟩, -, X6, ⟨Lc6, hQ6, l6, y6, z6⟩, st6⟩ := X5.specialBack hx (y := (⟨"java/lang/String", "<init>", "([C)V"⟩ : MethodName)) rfl hown (mvT hZ (hw _ (List.mem_of_getElem? (i := 12) rfl))) (mvT hZ (hw _ (List.mem_of_getElem? (i := 13) rfl))) (mvT hZ (hw _ (List.mem_of_getElem? (i := 14) rfl))) (by decide) (StrChars.Road.backV (W := 1) hZ hws (kI := 4) (hw _ (List.mem_of_getElem? (i := 10) rfl)) (cs := ([ca, cb] : List Int32)) (bs := ([ca, cb] : List Int32).map (fun c => c.toInt8.toInt32)) (n := 2) g_b5 (own_oldsz O) A5 F5_value F5_coder V4 (S_C.ext O.2) hcs rfl rfl (by decide) (by decide) (by intro c hc; simp only [List.mem_cons, List.not_mem_nil, or_false] at hc; rcases hc with rfl | rfl <;> assumption) rfl (by decide) (by decide)) (g := (mkF m 55 #[.val (.int p1), .val (.int p2), .val (.int p3), .val (.int p4), .val (.ref r1), .val (.int (1 : Int32)), .val (.ref b2), .unset, .unset, .unset, .unset, .unset] [(.ref b2), (.ref b5), (.ref b5)])) rfl (by rw [hml]; rfl) (Steps.refl _) (a := b5) (argsL := [(.ref b2)]) (rest := [(.ref b5)]) (lenOf pd_7 rfl) rfl (by show 2 * 0 + _ ≤ _; exact Nat.le_of_eq rfl) (hb hby at_55) (fun _ hWm => ⟨rfl, e5, (by decide : 2 + 1 ≤ _), (by decide : 6 + 2 ≤ _)⟩)
    dsimp only [Pt.U, Pt.locs, Pt.cells, Pt.slots] at X6 l6 y6 z6 st6 hQ6
    subst l6 y6 z6
    obtain ⟨rfl, Nq6, Kq6, Gq6_0, Gq6_1, t6, kb6, u6, fq6, nq6, Gq6_2, Gq6_3⟩ := hQ6
    replace N := Fr.app N Nq6
    have lt_b2_t6 : b2 < t6 := Nat.lt_of_lt_of_le G2.lt fq6
    have lt_b5_t6 : b5 < t6 := Nat.lt_of_lt_of_le A5.lt fq6
    have g_t6 : n0 ≤ t6 := Nat.le_trans (own_oldsz O) fq6
    replace G2 := G2.keep Kq6
    replace V4 := V4.keep Kq6 (ninS (Nat.ne_of_lt lt_b2_b5) nin0)
    replace A5 := A5.keep Kq6
    clear F5_coder
    clear F5_value
    replace O := O.keep Kq6 (allS g_b5 all0)
    replace hk := Nat.le_trans hk Kq6.1
    refine own_go (B := T6.setTop (mkF m 58 #[.val (.int p1), .val (.int p2), .val (.int p3), .val (.int p4), .val (.ref r1), .val (.int (1 : Int32)), .val (.ref b2), .unset, .unset, .unset, .unset, .unset] [(.ref b5)])) (fun t k => st6.trans k) ?_
    refine own_go (B := T6.setTop (mkF m 83 #[.val (.int p1), .val (.int p2), .val (.int p3), .val (.int p4), .val (.ref r1), .val (.int (1 : Int32)), .val (.ref b2), .val (.ref b5), .val .null, .unset, .unset, .unset] [])) (fun t k => ?_) ?_
    · show Steps p.tables e below (T6.setTop (mkF m 58 #[.val (.int p1), .val (.int p2), .val (.int p3), .val (.int p4), .val (.ref r1), .val (.int (1 : Int32)), .val (.ref b2), .unset, .unset, .unset, .unset, .unset] [(.ref b5)])) _
      refine XS.astore X6.here hx rfl (hb hby at_58) rfl rfl (l' := #[.val (.int p1), .val (.int p2), .val (.int p3), .val (.int p4), .val (.ref r1), .val (.int (1 : Int32)), .val (.ref b2), .val (.ref b5), .unset, .unset, .unset, .unset]) rfl ?_
      show Steps p.tables e below (T6.setTop (mkF m 60 #[.val (.int p1), .val (.int p2), .val (.int p3), .val (.int p4), .val (.ref r1), .val (.int (1 : Int32)), .val (.ref b2), .val (.ref b5), .unset, .unset, .unset, .unset] [])) _
      refine XS.iload X6.here hx rfl (hb hby at_60) rfl ?_
      show Steps p.tables e below (T6.setTop (mkF m 62 #[.val (.int p1), .val (.int p2), .val (.int p3), .val (.int p4), .val (.ref r1), .val (.int (1 : Int32)), .val (.ref b2), .val (.ref b5), .unset, .unset, .unset, .unset] [(.int (1 : Int32))])) _
      refine XS.ifNo X6.here hx rfl (hb hby at_62) rfl ((if0 _ _).trans (feq (by decide)).1) ?_
      show Steps p.tables e below (T6.setTop (mkF m 65 #[.val (.int p1), .val (.int p2), .val (.int p3), .val (.int p4), .val (.ref r1), .val (.int (1 : Int32)), .val (.ref b2), .val (.ref b5), .unset, .unset, .unset, .unset] [])) _
      refine XS.aconstNull X6.here hx rfl (hb hby at_65) ?_
      show Steps p.tables e below (T6.setTop (mkF m 66 #[.val (.int p1), .val (.int p2), .val (.int p3), .val (.int p4), .val (.ref r1), .val (.int (1 : Int32)), .val (.ref b2), .val (.ref b5), .unset, .unset, .unset, .unset] [.null])) _
      refine XS.goto X6.here hx rfl (pc0 := 66) (pc' := 81) rfl (hb hby at_66) (by decide) (by decide) ?_
      show Steps p.tables e below (T6.setTop (mkF m 81 #[.val (.int p1), .val (.int p2), .val (.int p3), .val (.int p4), .val (.ref r1), .val (.int (1 : Int32)), .val (.ref b2), .val (.ref b5), .unset, .unset, .unset, .unset] [.null])) _
      refine XS.astore X6.here hx rfl (hb hby at_81) rfl rfl (l' := #[.val (.int p1), .val (.int p2), .val (.int p3), .val (.int p4), .val (.ref r1), .val (.int (1 : Int32)), .val (.ref b2), .val (.ref b5), .val .null, .unset, .unset, .unset]) rfl ?_
      show Steps p.tables e below (T6.setTop (mkF m 83 #[.val (.int p1), .val (.int p2), .val (.int p3), .val (.int p4), .val (.ref r1), .val (.int (1 : Int32)), .val (.ref b2), .val (.ref b5), .val .null, .unset, .unset, .unset] [])) _
      exact k
    clear G2 V4 Gq6_0 Gq6_1 Gq6_2 Gq6_3
    obtain ⟨T7, h7, X7, e7, E7, A7, D7, -, st7⟩ := newO X6 hx hZ hown (hw _ (List.mem_of_getElem? (i := 52) rfl)) (hw _ (List.mem_of_getElem? (i := 53) rfl)) (hw _ (List.mem_of_getElem? (i := 54) rfl)) rfl (g := (mkF m 83 #[.val (.int p1), .val (.int p2), .val (.int p3), .val (.int p4), .val (.ref r1), .val (.int (1 : Int32)), .val (.ref b2), .val (.ref b5), .val .null, .unset, .unset, .unset] [])) rfl (hb hby at_83) (by decide) (by decide)
    obtain ⟨b7, g7⟩ : ∃ z, z = T6.heap.size := ⟨_, rfl⟩
    rw [← g7] at A7 D7 st7
    have g_b7 : n0 ≤ b7 := Nat.le_trans (own_oldsz O) (Nat.le_of_eq g7.symm)
    replace O := O.ext E7
    replace hk := Nat.le_trans hk E7.1
    have F7_database : Fld Z h7 b7 "com/example/nasute/nasute/sql/ObjectName" "database" "Ljava/lang/String;" .null := D7 (Or.inr (hw _ (List.mem_of_getElem? (i := 72) rfl))) (ty := (.object "java/lang/String")) (by decide)
    have F7_name : Fld Z h7 b7 "com/example/nasute/nasute/sql/ObjectName" "name" "Ljava/lang/String;" .null := D7 (Or.inr (hw _ (List.mem_of_getElem? (i := 74) rfl))) (ty := (.object "java/lang/String")) (by decide)
    refine own_go (B := T7.setTop (mkF m 86 #[.val (.int p1), .val (.int p2), .val (.int p3), .val (.int p4), .val (.ref r1), .val (.int (1 : Int32)), .val (.ref b2), .val (.ref b5), .val .null, .unset, .unset, .unset] [(.ref b7)])) st7 ?_
    refine own_go (B := T7.setTop (mkF m 91 #[.val (.int p1), .val (.int p2), .val (.int p3), .val (.int p4), .val (.ref r1), .val (.int (1 : Int32)), .val (.ref b2), .val (.ref b5), .val .null, .unset, .unset, .unset] [(.ref b5), .null, (.ref b7), (.ref b7)])) (fun t k => ?_) ?_
    · show Steps p.tables e below (T7.setTop (mkF m 86 #[.val (.int p1), .val (.int p2), .val (.int p3), .val (.int p4), .val (.ref r1), .val (.int (1 : Int32)), .val (.ref b2), .val (.ref b5), .val .null, .unset, .unset, .unset] [(.ref b7)])) _
      refine XS.dup X7.here hx rfl (hb hby at_86) rfl rfl ?_
      show Steps p.tables e below (T7.setTop (mkF m 87 #[.val (.int p1), .val (.int p2), .val (.int p3), .val (.int p4), .val (.ref r1), .val (.int (1 : Int32)), .val (.ref b2), .val (.ref b5), .val .null, .unset, .unset, .unset] [(.ref b7), (.ref b7)])) _
      refine XS.aload X7.here hx rfl (hb hby at_87) rfl rfl ?_
      show Steps p.tables e below (T7.setTop (mkF m 89 #[.val (.int p1), .val (.int p2), .val (.int p3), .val (.int p4), .val (.ref r1), .val (.int (1 : Int32)), .val (.ref b2), .val (.ref b5), .val .null, .unset, .unset, .unset] [.null, (.ref b7), (.ref b7)])) _
      refine XS.aload X7.here hx rfl (hb hby at_89) rfl rfl ?_
      show Steps p.tables e below (T7.setTop (mkF m 91 #[.val (.int p1), .val (.int p2), .val (.int p3), .val (.int p4), .val (.ref r1), .val (.int (1 : Int32)), .val (.ref b2), .val (.ref b5), .val .null, .unset, .unset, .unset] [(.ref b5), .null, (.ref b7), (.ref b7)])) _
      exact k
    -- pc 91: com/example/nasute/nasute/sql/ObjectName.<init>
    obtain ⟨_, _, ⟨T8, L8, k8, n8⟩, -, X8, hSq8, hgq8, ⟨Lc8, hQ8, l8, y8, z8⟩, st8⟩ := X7.specialBackS hx (y := (⟨"com/example/nasute/nasute/sql/ObjectName", "<init>", "(Ljava/lang/String;Ljava/lang/String;)V"⟩ : MethodName)) rfl hown (mvT hZ (hw _ (List.mem_of_getElem? (i := 55) rfl))) (mvT hZ (hw _ (List.mem_of_getElem? (i := 56) rfl))) (mvT hZ (hw _ (List.mem_of_getElem? (i := 57) rfl))) (by decide) (backOfS (W := 1) (rmON0 l Z a0 hw [] b7 b5 h7 n0 O A7 F7_database F7_name g_b7) hZ (hw _ (List.mem_of_getElem? (i := 57) rfl)) (hw _ (List.mem_of_getElem? (i := 54) rfl)) (by decide) (by decide)) (g := (mkF m 91 #[.val (.int p1), .val (.int p2), .val (.int p3), .val (.int p4), .val (.ref r1), .val (.int (1 : Int32)), .val (.ref b2), .val (.ref b5), .val .null, .unset, .unset, .unset] [(.ref b5), .null, (.ref b7), (.ref b7)])) rfl (by rw [hml]; rfl) (Steps.refl _) (a := b7) (argsL := [.null, (.ref b5)]) (rest := [(.ref b7)]) (lenOf pd_8 rfl) rfl (by show 2 * 0 + _ ≤ _; exact Nat.le_of_eq rfl) (hb hby at_91) (fun _ hWm => ⟨rfl, e7, (by decide : 4 + 2 ≤ _), (by decide : 10 + 20 ≤ _)⟩)
    dsimp only [Pt.U, Pt.locs, Pt.cells, Pt.slots] at X8 l8 y8 z8 st8 hQ8 hSq8 hgq8
    subst l8 y8 z8
    obtain ⟨X8, hS, hZ, hown⟩ := rebS hS (by rw [e7]; exact hk) X8 hSq8 hgq8 hZ hown
    obtain ⟨rfl, Nq8, Kq8⟩ := hQ8
    replace N := Fr.app N Nq8
    replace A7 := A7.keep Kq8
    clear F7_database
    clear F7_name
    replace O := O.keep Kq8 (allS g_b7 all0)
    have hk : T8.heap.size ≤ T8.heap.size := Nat.le_refl _
    refine own_go (B := T8.setTop (mkF m 94 #[.val (.int p1), .val (.int p2), .val (.int p3), .val (.int p4), .val (.ref r1), .val (.int (1 : Int32)), .val (.ref b2), .val (.ref b5), .val .null, .unset, .unset, .unset] [(.ref b7)])) (fun t k => st8.trans k) ?_
    refine own_go (B := T8.setTop (mkF m 96 #[.val (.int p1), .val (.int p2), .val (.int p3), .val (.int p4), .val (.ref r1), .val (.int (1 : Int32)), .val (.ref b2), .val (.ref b5), .val .null, .val (.ref b7), .unset, .unset] [])) (fun t k => ?_) ?_
    · show Steps p.tables e below (T8.setTop (mkF m 94 #[.val (.int p1), .val (.int p2), .val (.int p3), .val (.int p4), .val (.ref r1), .val (.int (1 : Int32)), .val (.ref b2), .val (.ref b5), .val .null, .unset, .unset, .unset] [(.ref b7)])) _
      refine XS.astore X8.here hx rfl (hb hby at_94) rfl rfl (l' := #[.val (.int p1), .val (.int p2), .val (.int p3), .val (.int p4), .val (.ref r1), .val (.int (1 : Int32)), .val (.ref b2), .val (.ref b5), .val .null, .val (.ref b7), .unset, .unset]) rfl ?_
      show Steps p.tables e below (T8.setTop (mkF m 96 #[.val (.int p1), .val (.int p2), .val (.int p3), .val (.int p4), .val (.ref r1), .val (.int (1 : Int32)), .val (.ref b2), .val (.ref b5), .val .null, .val (.ref b7), .unset, .unset] [])) _
      exact k
    obtain ⟨T9, h9, X9, e9, E9, A9, D9, -, st9⟩ := newO X8 hx hZ hown (hw _ (List.mem_of_getElem? (i := 75) rfl)) (hw _ (List.mem_of_getElem? (i := 76) rfl)) (hw _ (List.mem_of_getElem? (i := 77) rfl)) rfl (g := (mkF m 96 #[.val (.int p1), .val (.int p2), .val (.int p3), .val (.int p4), .val (.ref r1), .val (.int (1 : Int32)), .val (.ref b2), .val (.ref b5), .val .null, .val (.ref b7), .unset, .unset] [])) rfl (hb hby at_96) (by decide) (by decide)
    obtain ⟨b9, g9⟩ : ∃ z, z = T8.heap.size := ⟨_, rfl⟩
    rw [← g9] at A9 D9 st9
    have lt_b7_b9 : b7 < b9 := Nat.lt_of_lt_of_le A7.lt (Nat.le_of_eq g9.symm)
    have g_b9 : n0 ≤ b9 := Nat.le_trans (own_oldsz O) (Nat.le_of_eq g9.symm)
    replace A7 := A7.ext E9
    replace O := O.ext E9
    replace hk := Nat.le_trans hk E9.1
    have F9_table : Fld Z h9 b9 "com/example/nasute/nasute/sql/ColumnAccess$Every" "table" "Lcom/example/nasute/nasute/sql/ObjectName;" .null := D9 (Or.inr (hw _ (List.mem_of_getElem? (i := 86) rfl))) (ty := (.object "com/example/nasute/nasute/sql/ObjectName")) (by decide)
    have F9_operation : Fld Z h9 b9 "com/example/nasute/nasute/sql/ColumnAccess$Every" "operation" "Lcom/example/nasute/nasute/sql/Operation;" .null := D9 (Or.inr (hw _ (List.mem_of_getElem? (i := 88) rfl))) (ty := (.object "com/example/nasute/nasute/sql/Operation")) (by decide)
    have F9_position : Fld Z h9 b9 "com/example/nasute/nasute/sql/ColumnAccess$Every" "position" "I" (.int (0 : Int32)) := D9 (Or.inr (hw _ (List.mem_of_getElem? (i := 90) rfl))) (ty := .int) (by decide)
    refine own_go (B := T9.setTop (mkF m 99 #[.val (.int p1), .val (.int p2), .val (.int p3), .val (.int p4), .val (.ref r1), .val (.int (1 : Int32)), .val (.ref b2), .val (.ref b5), .val .null, .val (.ref b7), .unset, .unset] [(.ref b9)])) st9 ?_
    refine own_go (B := T9.setTop (mkF m 105 #[.val (.int p1), .val (.int p2), .val (.int p3), .val (.int p4), .val (.ref r1), .val (.int (1 : Int32)), .val (.ref b2), .val (.ref b5), .val .null, .val (.ref b7), .unset, .unset] [(.int p3), (.ref r1), (.ref b7), (.ref b9), (.ref b9)])) (fun t k => ?_) ?_
    · show Steps p.tables e below (T9.setTop (mkF m 99 #[.val (.int p1), .val (.int p2), .val (.int p3), .val (.int p4), .val (.ref r1), .val (.int (1 : Int32)), .val (.ref b2), .val (.ref b5), .val .null, .val (.ref b7), .unset, .unset] [(.ref b9)])) _
      refine XS.dup X9.here hx rfl (hb hby at_99) rfl rfl ?_
      show Steps p.tables e below (T9.setTop (mkF m 100 #[.val (.int p1), .val (.int p2), .val (.int p3), .val (.int p4), .val (.ref r1), .val (.int (1 : Int32)), .val (.ref b2), .val (.ref b5), .val .null, .val (.ref b7), .unset, .unset] [(.ref b9), (.ref b9)])) _
      refine XS.aload X9.here hx rfl (hb hby at_100) rfl rfl ?_
      show Steps p.tables e below (T9.setTop (mkF m 102 #[.val (.int p1), .val (.int p2), .val (.int p3), .val (.int p4), .val (.ref r1), .val (.int (1 : Int32)), .val (.ref b2), .val (.ref b5), .val .null, .val (.ref b7), .unset, .unset] [(.ref b7), (.ref b9), (.ref b9)])) _
      refine XS.aload X9.here hx rfl (hb hby at_102) rfl rfl ?_
      show Steps p.tables e below (T9.setTop (mkF m 104 #[.val (.int p1), .val (.int p2), .val (.int p3), .val (.int p4), .val (.ref r1), .val (.int (1 : Int32)), .val (.ref b2), .val (.ref b5), .val .null, .val (.ref b7), .unset, .unset] [(.ref r1), (.ref b7), (.ref b9), (.ref b9)])) _
      refine XS.iloadN X9.here hx rfl (hb hby at_104) rfl ?_
      show Steps p.tables e below (T9.setTop (mkF m 105 #[.val (.int p1), .val (.int p2), .val (.int p3), .val (.int p4), .val (.ref r1), .val (.int (1 : Int32)), .val (.ref b2), .val (.ref b5), .val .null, .val (.ref b7), .unset, .unset] [(.int p3), (.ref r1), (.ref b7), (.ref b9), (.ref b9)])) _
      exact k
    -- pc 105: com/example/nasute/nasute/sql/ColumnAccess$Every.<init>
    obtain ⟨_, _, ⟨T10, L10, k10, n10⟩, -, X10, hSq10, hgq10, ⟨Lc10, hQ10, l10, y10, z10⟩, st10⟩ := X9.specialBackS hx (y := (⟨"com/example/nasute/nasute/sql/ColumnAccess$Every", "<init>", "(Lcom/example/nasute/nasute/sql/ObjectName;Lcom/example/nasute/nasute/sql/Operation;I)V"⟩ : MethodName)) rfl hown (mvT hZ (hw _ (List.mem_of_getElem? (i := 78) rfl))) (mvT hZ (hw _ (List.mem_of_getElem? (i := 79) rfl))) (mvT hZ (hw _ (List.mem_of_getElem? (i := 80) rfl))) (by decide) (backOfS (W := 1) (rmEvI l Z a0 hw [] b9 b7 r1 p3 h9 n0 O A9 F9_table F9_operation F9_position g_b9) hZ (hw _ (List.mem_of_getElem? (i := 80) rfl)) (hw _ (List.mem_of_getElem? (i := 77) rfl)) (by decide) (by decide)) (g := (mkF m 105 #[.val (.int p1), .val (.int p2), .val (.int p3), .val (.int p4), .val (.ref r1), .val (.int (1 : Int32)), .val (.ref b2), .val (.ref b5), .val .null, .val (.ref b7), .unset, .unset] [(.int p3), (.ref r1), (.ref b7), (.ref b9), (.ref b9)])) rfl (by rw [hml]; rfl) (Steps.refl _) (a := b9) (argsL := [(.ref b7), (.ref r1), (.int p3)]) (rest := [(.ref b9)]) (lenOf pd_5 rfl) rfl (by show 2 * 0 + _ ≤ _; exact Nat.le_of_eq rfl) (hb hby at_105) (fun _ hWm => ⟨rfl, e9, (by decide : 7 + 4 ≤ _), (by decide : 33 + 64 ≤ _)⟩)
    dsimp only [Pt.U, Pt.locs, Pt.cells, Pt.slots] at X10 l10 y10 z10 st10 hQ10 hSq10 hgq10
    subst l10 y10 z10
    obtain ⟨X10, hS, hZ, hown⟩ := rebS hS (by rw [e9]; exact hk) X10 hSq10 hgq10 hZ hown
    obtain ⟨rfl, Nq10, Kq10, Gq10_0, Gq10_1, Gq10_2⟩ := hQ10
    replace N := Fr.app N Nq10
    replace A7 := A7.keep Kq10
    replace A9 := A9.keep Kq10
    clear F9_table
    clear F9_operation
    clear F9_position
    replace O := O.keep Kq10 (allS g_b9 all0)
    have hk : T10.heap.size ≤ T10.heap.size := Nat.le_refl _
    refine own_go (B := T10.setTop (mkF m 108 #[.val (.int p1), .val (.int p2), .val (.int p3), .val (.int p4), .val (.ref r1), .val (.int (1 : Int32)), .val (.ref b2), .val (.ref b5), .val .null, .val (.ref b7), .unset, .unset] [(.ref b9)])) (fun t k => st10.trans k) ?_
    refine own_go (B := T10.setTop (mkF m 113 #[.val (.int p1), .val (.int p2), .val (.int p3), .val (.int p4), .val (.ref r1), .val (.int (1 : Int32)), .val (.ref b2), .val (.ref b5), .val .null, .val (.ref b7), .val (.ref b9), .unset] [(.int p4), (.ref b9)])) (fun t k => ?_) ?_
    · show Steps p.tables e below (T10.setTop (mkF m 108 #[.val (.int p1), .val (.int p2), .val (.int p3), .val (.int p4), .val (.ref r1), .val (.int (1 : Int32)), .val (.ref b2), .val (.ref b5), .val .null, .val (.ref b7), .unset, .unset] [(.ref b9)])) _
      refine XS.astore X10.here hx rfl (hb hby at_108) rfl rfl (l' := #[.val (.int p1), .val (.int p2), .val (.int p3), .val (.int p4), .val (.ref r1), .val (.int (1 : Int32)), .val (.ref b2), .val (.ref b5), .val .null, .val (.ref b7), .val (.ref b9), .unset]) rfl ?_
      show Steps p.tables e below (T10.setTop (mkF m 110 #[.val (.int p1), .val (.int p2), .val (.int p3), .val (.int p4), .val (.ref r1), .val (.int (1 : Int32)), .val (.ref b2), .val (.ref b5), .val .null, .val (.ref b7), .val (.ref b9), .unset] [])) _
      refine XS.aload X10.here hx rfl (hb hby at_110) rfl rfl ?_
      show Steps p.tables e below (T10.setTop (mkF m 112 #[.val (.int p1), .val (.int p2), .val (.int p3), .val (.int p4), .val (.ref r1), .val (.int (1 : Int32)), .val (.ref b2), .val (.ref b5), .val .null, .val (.ref b7), .val (.ref b9), .unset] [(.ref b9)])) _
      refine XS.iloadN X10.here hx rfl (hb hby at_112) rfl ?_
      show Steps p.tables e below (T10.setTop (mkF m 113 #[.val (.int p1), .val (.int p2), .val (.int p3), .val (.int p4), .val (.ref r1), .val (.int (1 : Int32)), .val (.ref b2), .val (.ref b5), .val .null, .val (.ref b7), .val (.ref b9), .unset] [(.int p4), (.ref b9)])) _
      exact k
    -- pc 113: com/example/nasute/nasute/sql/ColumnAccess$Every.at
    obtain ⟨cq11, kq11, q11a, q11b, q11c⟩ := isOf hZ rfl A9
    obtain ⟨_, _, ⟨T11, L11, k11, n11⟩, -, X11, hSq11, hgq11, ⟨Lc11, hQ11, l11, y11, z11⟩, st11⟩ := X10.virtualBackS hx (y := (⟨"com/example/nasute/nasute/sql/ColumnAccess$Every", "at", "(I)Lcom/example/nasute/nasute/sql/ColumnAccess$Every;"⟩ : MethodName)) (z := (⟨"com/example/nasute/nasute/sql/ColumnAccess$Every", "at", "(I)Lcom/example/nasute/nasute/sql/ColumnAccess$Every;"⟩ : MethodName)) hown (mvT hZ (hw _ (List.mem_of_getElem? (i := 91) rfl))) (mvT hZ (hw _ (List.mem_of_getElem? (i := 92) rfl))) (notFace_of_selects (args := #[]) (mvT hZ (hw _ (List.mem_of_getElem? (i := 94) rfl)))) (mvT hZ (hw _ (List.mem_of_getElem? (i := 94) rfl))) (mvT hZ (hw _ (List.mem_of_getElem? (i := 93) rfl))) (by decide) (backOfS (W := 0) (rmAt l Z a0 hw [] b9 b7 r1 p4 T10.heap n0 O Gq10_0 Gq10_1) hZ (hw _ (List.mem_of_getElem? (i := 95) rfl)) (hw _ (List.mem_of_getElem? (i := 77) rfl)) (by decide) (by decide)) q11a q11c (g := (mkF m 113 #[.val (.int p1), .val (.int p2), .val (.int p3), .val (.int p4), .val (.ref r1), .val (.int (1 : Int32)), .val (.ref b2), .val (.ref b5), .val .null, .val (.ref b7), .val (.ref b9), .unset] [(.int p4), (.ref b9)])) rfl (by rw [hml]; rfl) (Steps.refl _) (argsL := [(.int p4)]) (rest := []) (lenOf pd_9 rfl) rfl (by show 2 * 0 + _ ≤ _; exact Nat.le_of_eq rfl) (hb hby at_113) (fun _ hWm => ⟨rfl, rfl, (by decide : 11 + 5 ≤ _), (by decide : 97 + 67 ≤ _)⟩)
    dsimp only [Pt.U, Pt.locs, Pt.cells, Pt.slots] at X11 l11 y11 z11 st11 hQ11 hSq11 hgq11
    subst l11 y11 z11
    obtain ⟨X11, hS, hZ, hown⟩ := rebS hS hk X11 hSq11 hgq11 hZ hown
    obtain ⟨r11, rfl, Nq11, Kq11, fq11_r, Gq11_0, Gq11_1, Gq11_2, Gq11_3⟩ := hQ11
    replace N := Fr.app N Nq11
    have lt_b7_r11 : b7 < r11 := Nat.lt_of_lt_of_le A7.lt fq11_r
    have lt_b9_r11 : b9 < r11 := Nat.lt_of_lt_of_le A9.lt fq11_r
    have g_r11 : n0 ≤ r11 := Nat.le_trans (own_oldsz O) fq11_r
    replace A7 := A7.keep Kq11
    replace A9 := A9.keep Kq11
    replace Gq10_0 := Gq10_0.keep Kq11 nin0
    replace Gq10_1 := Gq10_1.keep Kq11 nin0
    replace Gq10_2 := Gq10_2.keep Kq11 nin0
    replace O := O.keep Kq11 all0
    have hk : T11.heap.size ≤ T11.heap.size := Nat.le_refl _
    refine own_go (B := T11.setTop (mkF m 116 #[.val (.int p1), .val (.int p2), .val (.int p3), .val (.int p4), .val (.ref r1), .val (.int (1 : Int32)), .val (.ref b2), .val (.ref b5), .val .null, .val (.ref b7), .val (.ref b9), .unset] [(.ref r11)])) (fun t k => st11.trans k) ?_
    refine own_go (B := T11.setTop (mkF m 125 #[.val (.int p1), .val (.int p2), .val (.int p3), .val (.int p4), .val (.ref r1), .val (.int (1 : Int32)), .val (.ref b2), .val (.ref b5), .val .null, .val (.ref b7), .val (.ref b9), .val (.ref r11)] [(.ref r11)])) (fun t k => ?_) ?_
    · show Steps p.tables e below (T11.setTop (mkF m 116 #[.val (.int p1), .val (.int p2), .val (.int p3), .val (.int p4), .val (.ref r1), .val (.int (1 : Int32)), .val (.ref b2), .val (.ref b5), .val .null, .val (.ref b7), .val (.ref b9), .unset] [(.ref r11)])) _
      refine XS.astore X11.here hx rfl (hb hby at_116) rfl rfl (l' := #[.val (.int p1), .val (.int p2), .val (.int p3), .val (.int p4), .val (.ref r1), .val (.int (1 : Int32)), .val (.ref b2), .val (.ref b5), .val .null, .val (.ref b7), .val (.ref b9), .val (.ref r11)]) rfl ?_
      show Steps p.tables e below (T11.setTop (mkF m 118 #[.val (.int p1), .val (.int p2), .val (.int p3), .val (.int p4), .val (.ref r1), .val (.int (1 : Int32)), .val (.ref b2), .val (.ref b5), .val .null, .val (.ref b7), .val (.ref b9), .val (.ref r11)] [])) _
      refine XS.aload X11.here hx rfl (hb hby at_118) rfl rfl ?_
      show Steps p.tables e below (T11.setTop (mkF m 120 #[.val (.int p1), .val (.int p2), .val (.int p3), .val (.int p4), .val (.ref r1), .val (.int (1 : Int32)), .val (.ref b2), .val (.ref b5), .val .null, .val (.ref b7), .val (.ref b9), .val (.ref r11)] [(.ref r11)])) _
      refine XS.ifnullNo X11.here hx rfl (hb hby at_120) rfl ?_
      show Steps p.tables e below (T11.setTop (mkF m 123 #[.val (.int p1), .val (.int p2), .val (.int p3), .val (.int p4), .val (.ref r1), .val (.int (1 : Int32)), .val (.ref b2), .val (.ref b5), .val .null, .val (.ref b7), .val (.ref b9), .val (.ref r11)] [])) _
      refine XS.aload X11.here hx rfl (hb hby at_123) rfl rfl ?_
      show Steps p.tables e below (T11.setTop (mkF m 125 #[.val (.int p1), .val (.int p2), .val (.int p3), .val (.int p4), .val (.ref r1), .val (.int (1 : Int32)), .val (.ref b2), .val (.ref b5), .val .null, .val (.ref b7), .val (.ref b9), .val (.ref r11)] [(.ref r11)])) _
      exact k
    -- pc 125: com/example/nasute/nasute/sql/ColumnAccess$Every.table
    obtain ⟨cq12, kq12, q12a, q12b, q12c⟩ := isOf hZ rfl Gq11_0
    obtain ⟨_, _, ⟨T12, L12, k12, n12⟩, -, X12, ⟨Lc12, hQ12, l12, y12, z12⟩, st12⟩ := X11.virtualBack hx (y := (⟨"com/example/nasute/nasute/sql/ColumnAccess$Every", "table", "()Lcom/example/nasute/nasute/sql/ObjectName;"⟩ : MethodName)) (z := (⟨"com/example/nasute/nasute/sql/ColumnAccess$Every", "table", "()Lcom/example/nasute/nasute/sql/ObjectName;"⟩ : MethodName)) hown (mvT hZ (hw _ (List.mem_of_getElem? (i := 98) rfl))) (mvT hZ (hw _ (List.mem_of_getElem? (i := 99) rfl))) (notFace_of_selects (args := #[]) (mvT hZ (hw _ (List.mem_of_getElem? (i := 101) rfl)))) (mvT hZ (hw _ (List.mem_of_getElem? (i := 101) rfl))) (mvT hZ (hw _ (List.mem_of_getElem? (i := 100) rfl))) (by decide) (backOf (W := 0) (rmGt l Z a0 hw [] r11 b7 T11.heap n0 O Gq11_1) hZ (hw _ (List.mem_of_getElem? (i := 102) rfl)) (hw _ (List.mem_of_getElem? (i := 77) rfl)) (by decide) (by decide)) q12a q12c (g := (mkF m 125 #[.val (.int p1), .val (.int p2), .val (.int p3), .val (.int p4), .val (.ref r1), .val (.int (1 : Int32)), .val (.ref b2), .val (.ref b5), .val .null, .val (.ref b7), .val (.ref b9), .val (.ref r11)] [(.ref r11)])) rfl (by rw [hml]; rfl) (Steps.refl _) (argsL := []) (rest := []) (lenOf pd_10 rfl) rfl (by show 2 * 0 + _ ≤ _; exact Nat.le_of_eq rfl) (hb hby at_125) (fun _ hWm => ⟨rfl, rfl, (by decide : 16 + 0 ≤ _), (by decide : 164 + 0 ≤ _)⟩)
    dsimp only [Pt.U, Pt.locs, Pt.cells, Pt.slots] at X12 l12 y12 z12 st12 hQ12
    subst l12 y12 z12
    obtain ⟨rfl, Nq12, Kq12⟩ := hQ12
    replace N := Fr.app N Nq12
    refine own_go (B := T12.setTop (mkF m 128 #[.val (.int p1), .val (.int p2), .val (.int p3), .val (.int p4), .val (.ref r1), .val (.int (1 : Int32)), .val (.ref b2), .val (.ref b5), .val .null, .val (.ref b7), .val (.ref b9), .val (.ref r11)] [(.ref b7)])) (fun t k => st12.trans k) ?_
    refine own_go (B := T12.setTop (mkF m 135 #[.val (.int p1), .val (.int p2), .val (.int p3), .val (.int p4), .val (.ref r1), .val (.int (1 : Int32)), .val (.ref b2), .val (.ref b5), .val .null, .val (.ref b7), .val (.ref b9), .val (.ref r11)] [(.ref r11)])) (fun t k => ?_) ?_
    · show Steps p.tables e below (T12.setTop (mkF m 128 #[.val (.int p1), .val (.int p2), .val (.int p3), .val (.int p4), .val (.ref r1), .val (.int (1 : Int32)), .val (.ref b2), .val (.ref b5), .val .null, .val (.ref b7), .val (.ref b9), .val (.ref r11)] [(.ref b7)])) _
      refine XS.aload X12.here hx rfl (hb hby at_128) rfl rfl ?_
      show Steps p.tables e below (T12.setTop (mkF m 130 #[.val (.int p1), .val (.int p2), .val (.int p3), .val (.int p4), .val (.ref r1), .val (.int (1 : Int32)), .val (.ref b2), .val (.ref b5), .val .null, .val (.ref b7), .val (.ref b9), .val (.ref r11)] [(.ref b7), (.ref b7)])) _
      refine Jvm.RoadKit.acmp (g := (mkF m 130 #[.val (.int p1), .val (.int p2), .val (.int p3), .val (.int p4), .val (.ref r1), .val (.int (1 : Int32)), .val (.ref b2), .val (.ref b5), .val .null, .val (.ref b7), .val (.ref b9), .val (.ref r11)] [(.ref b7), (.ref b7)])) X12 hx rfl rfl rfl (pc0 := 130) (pc' := 133) (same := true) rfl (hb hby at_130) rfl (decide_eq_true (congrArg Value.ref rfl)) (by decide) (by decide) ?_
      show Steps p.tables e below (T12.setTop (mkF m 133 #[.val (.int p1), .val (.int p2), .val (.int p3), .val (.int p4), .val (.ref r1), .val (.int (1 : Int32)), .val (.ref b2), .val (.ref b5), .val .null, .val (.ref b7), .val (.ref b9), .val (.ref r11)] [])) _
      refine XS.aload X12.here hx rfl (hb hby at_133) rfl rfl ?_
      show Steps p.tables e below (T12.setTop (mkF m 135 #[.val (.int p1), .val (.int p2), .val (.int p3), .val (.int p4), .val (.ref r1), .val (.int (1 : Int32)), .val (.ref b2), .val (.ref b5), .val .null, .val (.ref b7), .val (.ref b9), .val (.ref r11)] [(.ref r11)])) _
      exact k
    -- pc 135: com/example/nasute/nasute/sql/ColumnAccess$Every.operation
    obtain ⟨cq13, kq13, q13a, q13b, q13c⟩ := isOf hZ Kq12 Gq11_0
    obtain ⟨_, _, ⟨T13, L13, k13, n13⟩, -, X13, ⟨Lc13, hQ13, l13, y13, z13⟩, st13⟩ := X12.virtualBack hx (y := (⟨"com/example/nasute/nasute/sql/ColumnAccess$Every", "operation", "()Lcom/example/nasute/nasute/sql/Operation;"⟩ : MethodName)) (z := (⟨"com/example/nasute/nasute/sql/ColumnAccess$Every", "operation", "()Lcom/example/nasute/nasute/sql/Operation;"⟩ : MethodName)) hown (mvT hZ (hw _ (List.mem_of_getElem? (i := 103) rfl))) (mvT hZ (hw _ (List.mem_of_getElem? (i := 104) rfl))) (notFace_of_selects (args := #[]) (mvT hZ (hw _ (List.mem_of_getElem? (i := 106) rfl)))) (mvT hZ (hw _ (List.mem_of_getElem? (i := 106) rfl))) (mvT hZ (hw _ (List.mem_of_getElem? (i := 105) rfl))) (by decide) (backOf (W := 0) (rmGo l Z a0 hw [] r11 r1 T11.heap n0 O Gq11_2) hZ (hw _ (List.mem_of_getElem? (i := 107) rfl)) (hw _ (List.mem_of_getElem? (i := 77) rfl)) (by decide) (by decide)) q13a q13c (g := (mkF m 135 #[.val (.int p1), .val (.int p2), .val (.int p3), .val (.int p4), .val (.ref r1), .val (.int (1 : Int32)), .val (.ref b2), .val (.ref b5), .val .null, .val (.ref b7), .val (.ref b9), .val (.ref r11)] [(.ref r11)])) rfl (by rw [hml]; rfl) (Steps.refl _) (argsL := []) (rest := []) (lenOf pd_11 rfl) rfl (by show 2 * 0 + _ ≤ _; exact Nat.le_of_eq rfl) (hb hby at_135) (fun _ hWm => ⟨rfl, Kq12, (by decide : 16 + 0 ≤ _), (by decide : 164 + 0 ≤ _)⟩)
    dsimp only [Pt.U, Pt.locs, Pt.cells, Pt.slots] at X13 l13 y13 z13 st13 hQ13
    subst l13 y13 z13
    obtain ⟨rfl, Nq13, Kq13⟩ := hQ13
    replace N := Fr.app N Nq13
    refine own_go (B := T13.setTop (mkF m 138 #[.val (.int p1), .val (.int p2), .val (.int p3), .val (.int p4), .val (.ref r1), .val (.int (1 : Int32)), .val (.ref b2), .val (.ref b5), .val .null, .val (.ref b7), .val (.ref b9), .val (.ref r11)] [(.ref r1)])) (fun t k => st13.trans k) ?_
    refine own_go (B := T13.setTop (mkF m 145 #[.val (.int p1), .val (.int p2), .val (.int p3), .val (.int p4), .val (.ref r1), .val (.int (1 : Int32)), .val (.ref b2), .val (.ref b5), .val .null, .val (.ref b7), .val (.ref b9), .val (.ref r11)] [(.ref r11)])) (fun t k => ?_) ?_
    · show Steps p.tables e below (T13.setTop (mkF m 138 #[.val (.int p1), .val (.int p2), .val (.int p3), .val (.int p4), .val (.ref r1), .val (.int (1 : Int32)), .val (.ref b2), .val (.ref b5), .val .null, .val (.ref b7), .val (.ref b9), .val (.ref r11)] [(.ref r1)])) _
      refine XS.aload X13.here hx rfl (hb hby at_138) rfl rfl ?_
      show Steps p.tables e below (T13.setTop (mkF m 140 #[.val (.int p1), .val (.int p2), .val (.int p3), .val (.int p4), .val (.ref r1), .val (.int (1 : Int32)), .val (.ref b2), .val (.ref b5), .val .null, .val (.ref b7), .val (.ref b9), .val (.ref r11)] [(.ref r1), (.ref r1)])) _
      refine Jvm.RoadKit.acmp (g := (mkF m 140 #[.val (.int p1), .val (.int p2), .val (.int p3), .val (.int p4), .val (.ref r1), .val (.int (1 : Int32)), .val (.ref b2), .val (.ref b5), .val .null, .val (.ref b7), .val (.ref b9), .val (.ref r11)] [(.ref r1), (.ref r1)])) X13 hx rfl rfl rfl (pc0 := 140) (pc' := 143) (same := true) rfl (hb hby at_140) rfl (decide_eq_true (congrArg Value.ref rfl)) (by decide) (by decide) ?_
      show Steps p.tables e below (T13.setTop (mkF m 143 #[.val (.int p1), .val (.int p2), .val (.int p3), .val (.int p4), .val (.ref r1), .val (.int (1 : Int32)), .val (.ref b2), .val (.ref b5), .val .null, .val (.ref b7), .val (.ref b9), .val (.ref r11)] [])) _
      refine XS.aload X13.here hx rfl (hb hby at_143) rfl rfl ?_
      show Steps p.tables e below (T13.setTop (mkF m 145 #[.val (.int p1), .val (.int p2), .val (.int p3), .val (.int p4), .val (.ref r1), .val (.int (1 : Int32)), .val (.ref b2), .val (.ref b5), .val .null, .val (.ref b7), .val (.ref b9), .val (.ref r11)] [(.ref r11)])) _
      exact k
    -- pc 145: com/example/nasute/nasute/sql/ColumnAccess$Every.position
    obtain ⟨cq14, kq14, q14a, q14b, q14c⟩ := isOf hZ Kq13 Gq11_0
    obtain ⟨_, _, ⟨T14, L14, k14, n14⟩, -, X14, ⟨Lc14, hQ14, l14, y14, z14⟩, st14⟩ := X13.virtualBack hx (y := (⟨"com/example/nasute/nasute/sql/ColumnAccess$Every", "position", "()I"⟩ : MethodName)) (z := (⟨"com/example/nasute/nasute/sql/ColumnAccess$Every", "position", "()I"⟩ : MethodName)) hown (mvT hZ (hw _ (List.mem_of_getElem? (i := 108) rfl))) (mvT hZ (hw _ (List.mem_of_getElem? (i := 109) rfl))) (notFace_of_selects (args := #[]) (mvT hZ (hw _ (List.mem_of_getElem? (i := 111) rfl)))) (mvT hZ (hw _ (List.mem_of_getElem? (i := 111) rfl))) (mvT hZ (hw _ (List.mem_of_getElem? (i := 110) rfl))) (by decide) (backOf (W := 0) (rmGp l Z a0 hw [] r11 p4 T11.heap n0 O Gq11_3) hZ (hw _ (List.mem_of_getElem? (i := 112) rfl)) (hw _ (List.mem_of_getElem? (i := 77) rfl)) (by decide) (by decide)) q14a q14c (g := (mkF m 145 #[.val (.int p1), .val (.int p2), .val (.int p3), .val (.int p4), .val (.ref r1), .val (.int (1 : Int32)), .val (.ref b2), .val (.ref b5), .val .null, .val (.ref b7), .val (.ref b9), .val (.ref r11)] [(.ref r11)])) rfl (by rw [hml]; rfl) (Steps.refl _) (argsL := []) (rest := []) (lenOf pd_12 rfl) rfl (by show 2 * 0 + _ ≤ _; exact Nat.le_of_eq rfl) (hb hby at_145) (fun _ hWm => ⟨rfl, Kq13, (by decide : 16 + 0 ≤ _), (by decide : 164 + 0 ≤ _)⟩)
    dsimp only [Pt.U, Pt.locs, Pt.cells, Pt.slots] at X14 l14 y14 z14 st14 hQ14
    subst l14 y14 z14
    obtain ⟨rfl, Nq14, Kq14⟩ := hQ14
    replace N := Fr.app N Nq14
    refine own_go (B := T14.setTop (mkF m 148 #[.val (.int p1), .val (.int p2), .val (.int p3), .val (.int p4), .val (.ref r1), .val (.int (1 : Int32)), .val (.ref b2), .val (.ref b5), .val .null, .val (.ref b7), .val (.ref b9), .val (.ref r11)] [(.int p4)])) (fun t k => st14.trans k) ?_
    refine own_go (B := T14.setTop (mkF m 154 #[.val (.int p1), .val (.int p2), .val (.int p3), .val (.int p4), .val (.ref r1), .val (.int (1 : Int32)), .val (.ref b2), .val (.ref b5), .val .null, .val (.ref b7), .val (.ref b9), .val (.ref r11)] [(.ref b9)])) (fun t k => ?_) ?_
    · show Steps p.tables e below (T14.setTop (mkF m 148 #[.val (.int p1), .val (.int p2), .val (.int p3), .val (.int p4), .val (.ref r1), .val (.int (1 : Int32)), .val (.ref b2), .val (.ref b5), .val .null, .val (.ref b7), .val (.ref b9), .val (.ref r11)] [(.int p4)])) _
      refine XS.iloadN X14.here hx rfl (hb hby at_148) rfl ?_
      show Steps p.tables e below (T14.setTop (mkF m 149 #[.val (.int p1), .val (.int p2), .val (.int p3), .val (.int p4), .val (.ref r1), .val (.int (1 : Int32)), .val (.ref b2), .val (.ref b5), .val .null, .val (.ref b7), .val (.ref b9), .val (.ref r11)] [(.int p4), (.int p4)])) _
      refine XS.icmpNo X14.here hx rfl (hb hby at_149) rfl (teq rfl).2 ?_
      show Steps p.tables e below (T14.setTop (mkF m 152 #[.val (.int p1), .val (.int p2), .val (.int p3), .val (.int p4), .val (.ref r1), .val (.int (1 : Int32)), .val (.ref b2), .val (.ref b5), .val .null, .val (.ref b7), .val (.ref b9), .val (.ref r11)] [])) _
      refine XS.aload X14.here hx rfl (hb hby at_152) rfl rfl ?_
      show Steps p.tables e below (T14.setTop (mkF m 154 #[.val (.int p1), .val (.int p2), .val (.int p3), .val (.int p4), .val (.ref r1), .val (.int (1 : Int32)), .val (.ref b2), .val (.ref b5), .val .null, .val (.ref b7), .val (.ref b9), .val (.ref r11)] [(.ref b9)])) _
      exact k
    -- pc 154: com/example/nasute/nasute/sql/ColumnAccess$Every.table
    obtain ⟨cq15, kq15, q15a, q15b, q15c⟩ := isOf hZ Kq14 A9
    obtain ⟨_, _, ⟨T15, L15, k15, n15⟩, -, X15, ⟨Lc15, hQ15, l15, y15, z15⟩, st15⟩ := X14.virtualBack hx (y := (⟨"com/example/nasute/nasute/sql/ColumnAccess$Every", "table", "()Lcom/example/nasute/nasute/sql/ObjectName;"⟩ : MethodName)) (z := (⟨"com/example/nasute/nasute/sql/ColumnAccess$Every", "table", "()Lcom/example/nasute/nasute/sql/ObjectName;"⟩ : MethodName)) hown (mvT hZ (hw _ (List.mem_of_getElem? (i := 98) rfl))) (mvT hZ (hw _ (List.mem_of_getElem? (i := 99) rfl))) (notFace_of_selects (args := #[]) (mvT hZ (hw _ (List.mem_of_getElem? (i := 101) rfl)))) (mvT hZ (hw _ (List.mem_of_getElem? (i := 101) rfl))) (mvT hZ (hw _ (List.mem_of_getElem? (i := 100) rfl))) (by decide) (backOf (W := 0) (rmGt l Z a0 hw [] b9 b7 T11.heap n0 O Gq10_0) hZ (hw _ (List.mem_of_getElem? (i := 102) rfl)) (hw _ (List.mem_of_getElem? (i := 77) rfl)) (by decide) (by decide)) q15a q15c (g := (mkF m 154 #[.val (.int p1), .val (.int p2), .val (.int p3), .val (.int p4), .val (.ref r1), .val (.int (1 : Int32)), .val (.ref b2), .val (.ref b5), .val .null, .val (.ref b7), .val (.ref b9), .val (.ref r11)] [(.ref b9)])) rfl (by rw [hml]; rfl) (Steps.refl _) (argsL := []) (rest := []) (lenOf pd_10 rfl) rfl (by show 2 * 0 + _ ≤ _; exact Nat.le_of_eq rfl) (hb hby at_154) (fun _ hWm => ⟨rfl, Kq14, (by decide : 16 + 0 ≤ _), (by decide : 164 + 0 ≤ _)⟩)
    dsimp only [Pt.U, Pt.locs, Pt.cells, Pt.slots] at X15 l15 y15 z15 st15 hQ15
    subst l15 y15 z15
    obtain ⟨rfl, Nq15, Kq15⟩ := hQ15
    replace N := Fr.app N Nq15
    refine own_go (B := T15.setTop (mkF m 157 #[.val (.int p1), .val (.int p2), .val (.int p3), .val (.int p4), .val (.ref r1), .val (.int (1 : Int32)), .val (.ref b2), .val (.ref b5), .val .null, .val (.ref b7), .val (.ref b9), .val (.ref r11)] [(.ref b7)])) (fun t k => st15.trans k) ?_
    refine own_go (B := T15.setTop (mkF m 164 #[.val (.int p1), .val (.int p2), .val (.int p3), .val (.int p4), .val (.ref r1), .val (.int (1 : Int32)), .val (.ref b2), .val (.ref b5), .val .null, .val (.ref b7), .val (.ref b9), .val (.ref r11)] [(.ref b9)])) (fun t k => ?_) ?_
    · show Steps p.tables e below (T15.setTop (mkF m 157 #[.val (.int p1), .val (.int p2), .val (.int p3), .val (.int p4), .val (.ref r1), .val (.int (1 : Int32)), .val (.ref b2), .val (.ref b5), .val .null, .val (.ref b7), .val (.ref b9), .val (.ref r11)] [(.ref b7)])) _
      refine XS.aload X15.here hx rfl (hb hby at_157) rfl rfl ?_
      show Steps p.tables e below (T15.setTop (mkF m 159 #[.val (.int p1), .val (.int p2), .val (.int p3), .val (.int p4), .val (.ref r1), .val (.int (1 : Int32)), .val (.ref b2), .val (.ref b5), .val .null, .val (.ref b7), .val (.ref b9), .val (.ref r11)] [(.ref b7), (.ref b7)])) _
      refine Jvm.RoadKit.acmp (g := (mkF m 159 #[.val (.int p1), .val (.int p2), .val (.int p3), .val (.int p4), .val (.ref r1), .val (.int (1 : Int32)), .val (.ref b2), .val (.ref b5), .val .null, .val (.ref b7), .val (.ref b9), .val (.ref r11)] [(.ref b7), (.ref b7)])) X15 hx rfl rfl rfl (pc0 := 159) (pc' := 162) (same := true) rfl (hb hby at_159) rfl (decide_eq_true (congrArg Value.ref rfl)) (by decide) (by decide) ?_
      show Steps p.tables e below (T15.setTop (mkF m 162 #[.val (.int p1), .val (.int p2), .val (.int p3), .val (.int p4), .val (.ref r1), .val (.int (1 : Int32)), .val (.ref b2), .val (.ref b5), .val .null, .val (.ref b7), .val (.ref b9), .val (.ref r11)] [])) _
      refine XS.aload X15.here hx rfl (hb hby at_162) rfl rfl ?_
      show Steps p.tables e below (T15.setTop (mkF m 164 #[.val (.int p1), .val (.int p2), .val (.int p3), .val (.int p4), .val (.ref r1), .val (.int (1 : Int32)), .val (.ref b2), .val (.ref b5), .val .null, .val (.ref b7), .val (.ref b9), .val (.ref r11)] [(.ref b9)])) _
      exact k
    -- pc 164: com/example/nasute/nasute/sql/ColumnAccess$Every.operation
    obtain ⟨cq16, kq16, q16a, q16b, q16c⟩ := isOf hZ Kq15 A9
    obtain ⟨_, _, ⟨T16, L16, k16, n16⟩, -, X16, ⟨Lc16, hQ16, l16, y16, z16⟩, st16⟩ := X15.virtualBack hx (y := (⟨"com/example/nasute/nasute/sql/ColumnAccess$Every", "operation", "()Lcom/example/nasute/nasute/sql/Operation;"⟩ : MethodName)) (z := (⟨"com/example/nasute/nasute/sql/ColumnAccess$Every", "operation", "()Lcom/example/nasute/nasute/sql/Operation;"⟩ : MethodName)) hown (mvT hZ (hw _ (List.mem_of_getElem? (i := 103) rfl))) (mvT hZ (hw _ (List.mem_of_getElem? (i := 104) rfl))) (notFace_of_selects (args := #[]) (mvT hZ (hw _ (List.mem_of_getElem? (i := 106) rfl)))) (mvT hZ (hw _ (List.mem_of_getElem? (i := 106) rfl))) (mvT hZ (hw _ (List.mem_of_getElem? (i := 105) rfl))) (by decide) (backOf (W := 0) (rmGo l Z a0 hw [] b9 r1 T11.heap n0 O Gq10_1) hZ (hw _ (List.mem_of_getElem? (i := 107) rfl)) (hw _ (List.mem_of_getElem? (i := 77) rfl)) (by decide) (by decide)) q16a q16c (g := (mkF m 164 #[.val (.int p1), .val (.int p2), .val (.int p3), .val (.int p4), .val (.ref r1), .val (.int (1 : Int32)), .val (.ref b2), .val (.ref b5), .val .null, .val (.ref b7), .val (.ref b9), .val (.ref r11)] [(.ref b9)])) rfl (by rw [hml]; rfl) (Steps.refl _) (argsL := []) (rest := []) (lenOf pd_11 rfl) rfl (by show 2 * 0 + _ ≤ _; exact Nat.le_of_eq rfl) (hb hby at_164) (fun _ hWm => ⟨rfl, Kq15, (by decide : 16 + 0 ≤ _), (by decide : 164 + 0 ≤ _)⟩)
    dsimp only [Pt.U, Pt.locs, Pt.cells, Pt.slots] at X16 l16 y16 z16 st16 hQ16
    subst l16 y16 z16
    obtain ⟨rfl, Nq16, Kq16⟩ := hQ16
    replace N := Fr.app N Nq16
    refine own_go (B := T16.setTop (mkF m 167 #[.val (.int p1), .val (.int p2), .val (.int p3), .val (.int p4), .val (.ref r1), .val (.int (1 : Int32)), .val (.ref b2), .val (.ref b5), .val .null, .val (.ref b7), .val (.ref b9), .val (.ref r11)] [(.ref r1)])) (fun t k => st16.trans k) ?_
    refine own_go (B := T16.setTop (mkF m 174 #[.val (.int p1), .val (.int p2), .val (.int p3), .val (.int p4), .val (.ref r1), .val (.int (1 : Int32)), .val (.ref b2), .val (.ref b5), .val .null, .val (.ref b7), .val (.ref b9), .val (.ref r11)] [(.ref b9)])) (fun t k => ?_) ?_
    · show Steps p.tables e below (T16.setTop (mkF m 167 #[.val (.int p1), .val (.int p2), .val (.int p3), .val (.int p4), .val (.ref r1), .val (.int (1 : Int32)), .val (.ref b2), .val (.ref b5), .val .null, .val (.ref b7), .val (.ref b9), .val (.ref r11)] [(.ref r1)])) _
      refine XS.aload X16.here hx rfl (hb hby at_167) rfl rfl ?_
      show Steps p.tables e below (T16.setTop (mkF m 169 #[.val (.int p1), .val (.int p2), .val (.int p3), .val (.int p4), .val (.ref r1), .val (.int (1 : Int32)), .val (.ref b2), .val (.ref b5), .val .null, .val (.ref b7), .val (.ref b9), .val (.ref r11)] [(.ref r1), (.ref r1)])) _
      refine Jvm.RoadKit.acmp (g := (mkF m 169 #[.val (.int p1), .val (.int p2), .val (.int p3), .val (.int p4), .val (.ref r1), .val (.int (1 : Int32)), .val (.ref b2), .val (.ref b5), .val .null, .val (.ref b7), .val (.ref b9), .val (.ref r11)] [(.ref r1), (.ref r1)])) X16 hx rfl rfl rfl (pc0 := 169) (pc' := 172) (same := true) rfl (hb hby at_169) rfl (decide_eq_true (congrArg Value.ref rfl)) (by decide) (by decide) ?_
      show Steps p.tables e below (T16.setTop (mkF m 172 #[.val (.int p1), .val (.int p2), .val (.int p3), .val (.int p4), .val (.ref r1), .val (.int (1 : Int32)), .val (.ref b2), .val (.ref b5), .val .null, .val (.ref b7), .val (.ref b9), .val (.ref r11)] [])) _
      refine XS.aload X16.here hx rfl (hb hby at_172) rfl rfl ?_
      show Steps p.tables e below (T16.setTop (mkF m 174 #[.val (.int p1), .val (.int p2), .val (.int p3), .val (.int p4), .val (.ref r1), .val (.int (1 : Int32)), .val (.ref b2), .val (.ref b5), .val .null, .val (.ref b7), .val (.ref b9), .val (.ref r11)] [(.ref b9)])) _
      exact k
    -- pc 174: com/example/nasute/nasute/sql/ColumnAccess$Every.position
    obtain ⟨cq17, kq17, q17a, q17b, q17c⟩ := isOf hZ Kq16 A9
    obtain ⟨_, _, ⟨T17, L17, k17, n17⟩, -, X17, ⟨Lc17, hQ17, l17, y17, z17⟩, st17⟩ := X16.virtualBack hx (y := (⟨"com/example/nasute/nasute/sql/ColumnAccess$Every", "position", "()I"⟩ : MethodName)) (z := (⟨"com/example/nasute/nasute/sql/ColumnAccess$Every", "position", "()I"⟩ : MethodName)) hown (mvT hZ (hw _ (List.mem_of_getElem? (i := 108) rfl))) (mvT hZ (hw _ (List.mem_of_getElem? (i := 109) rfl))) (notFace_of_selects (args := #[]) (mvT hZ (hw _ (List.mem_of_getElem? (i := 111) rfl)))) (mvT hZ (hw _ (List.mem_of_getElem? (i := 111) rfl))) (mvT hZ (hw _ (List.mem_of_getElem? (i := 110) rfl))) (by decide) (backOf (W := 0) (rmGp l Z a0 hw [] b9 p3 T11.heap n0 O Gq10_2) hZ (hw _ (List.mem_of_getElem? (i := 112) rfl)) (hw _ (List.mem_of_getElem? (i := 77) rfl)) (by decide) (by decide)) q17a q17c (g := (mkF m 174 #[.val (.int p1), .val (.int p2), .val (.int p3), .val (.int p4), .val (.ref r1), .val (.int (1 : Int32)), .val (.ref b2), .val (.ref b5), .val .null, .val (.ref b7), .val (.ref b9), .val (.ref r11)] [(.ref b9)])) rfl (by rw [hml]; rfl) (Steps.refl _) (argsL := []) (rest := []) (lenOf pd_12 rfl) rfl (by show 2 * 0 + _ ≤ _; exact Nat.le_of_eq rfl) (hb hby at_174) (fun _ hWm => ⟨rfl, Kq16, (by decide : 16 + 0 ≤ _), (by decide : 164 + 0 ≤ _)⟩)
    dsimp only [Pt.U, Pt.locs, Pt.cells, Pt.slots] at X17 l17 y17 z17 st17 hQ17
    subst l17 y17 z17
    obtain ⟨rfl, Nq17, Kq17⟩ := hQ17
    replace N := Fr.app N Nq17
    refine own_go (B := T17.setTop (mkF m 177 #[.val (.int p1), .val (.int p2), .val (.int p3), .val (.int p4), .val (.ref r1), .val (.int (1 : Int32)), .val (.ref b2), .val (.ref b5), .val .null, .val (.ref b7), .val (.ref b9), .val (.ref r11)] [(.int p3)])) (fun t k => st17.trans k) ?_
    refine own_go (B := T17.setTop (mkF m 186 #[.val (.int p1), .val (.int p2), .val (.int p3), .val (.int p4), .val (.ref r1), .val (.int (1 : Int32)), .val (.ref b2), .val (.ref b5), .val .null, .val (.ref b7), .val (.ref b9), .val (.ref r11)] [(.int (1 : Int32))])) (fun t k => ?_) ?_
    · show Steps p.tables e below (T17.setTop (mkF m 177 #[.val (.int p1), .val (.int p2), .val (.int p3), .val (.int p4), .val (.ref r1), .val (.int (1 : Int32)), .val (.ref b2), .val (.ref b5), .val .null, .val (.ref b7), .val (.ref b9), .val (.ref r11)] [(.int p3)])) _
      refine XS.iloadN X17.here hx rfl (hb hby at_177) rfl ?_
      show Steps p.tables e below (T17.setTop (mkF m 178 #[.val (.int p1), .val (.int p2), .val (.int p3), .val (.int p4), .val (.ref r1), .val (.int (1 : Int32)), .val (.ref b2), .val (.ref b5), .val .null, .val (.ref b7), .val (.ref b9), .val (.ref r11)] [(.int p3), (.int p3)])) _
      refine XS.icmpNo X17.here hx rfl (hb hby at_178) rfl (teq rfl).2 ?_
      show Steps p.tables e below (T17.setTop (mkF m 181 #[.val (.int p1), .val (.int p2), .val (.int p3), .val (.int p4), .val (.ref r1), .val (.int (1 : Int32)), .val (.ref b2), .val (.ref b5), .val .null, .val (.ref b7), .val (.ref b9), .val (.ref r11)] [])) _
      refine XS.iconst X17.here hx rfl (hb hby at_181) ?_
      show Steps p.tables e below (T17.setTop (mkF m 182 #[.val (.int p1), .val (.int p2), .val (.int p3), .val (.int p4), .val (.ref r1), .val (.int (1 : Int32)), .val (.ref b2), .val (.ref b5), .val .null, .val (.ref b7), .val (.ref b9), .val (.ref r11)] [(.int (1 : Int32))])) _
      refine XS.goto X17.here hx rfl (pc0 := 182) (pc' := 186) rfl (hb hby at_182) (by decide) (by decide) ?_
      show Steps p.tables e below (T17.setTop (mkF m 186 #[.val (.int p1), .val (.int p2), .val (.int p3), .val (.int p4), .val (.ref r1), .val (.int (1 : Int32)), .val (.ref b2), .val (.ref b5), .val .null, .val (.ref b7), .val (.ref b9), .val (.ref r11)] [(.int (1 : Int32))])) _
      exact k
    obtain ⟨fs, hr, hrun, hended, hEnd⟩ := X17.leaveW hS (by rw [Kq17]; exact hk) (v := some (.int (1 : Int32))) (fun h => by rw [Bd.returns] at h; cases h)
    refine ⟨_, _, retN X17 hx (t := .boolean) Bd.returns (by simp) (hb hby at_186) hr, hfin _ _ ⟨hrun, hended, _, _, rfl, ?_, hEnd.1, hEnd.2.1, hEnd.2.2.1, hEnd.2.2.2.mono (by decide) (by decide)⟩⟩
    show Q0 Z p1 p2 p3 p4 w0 w1 w2 w3 w4 w5 w6 zc h0 n0 _ T17.heap _
    rw [Kq17]
    exact ⟨rfl, N⟩
  · refine own_go (B := T1.setTop (mkF m 24 #[.val (.int p1), .val (.int p2), .val (.int p3), .val (.int p4), .val (.ref r1), .val (.int (0 : Int32)), .unset, .unset, .unset, .unset, .unset, .unset] [(.int (2 : Int32))])) (fun t k => ?_) ?_
    · show Steps p.tables e below (T1.setTop (mkF m 12 #[.val (.int p1), .val (.int p2), .val (.int p3), .val (.int p4), .val (.ref r1), .unset, .unset, .unset, .unset, .unset, .unset, .unset] [])) _
      refine XS.iloadN X1.here hx rfl (hb hby at_12) rfl ?_
      show Steps p.tables e below (T1.setTop (mkF m 13 #[.val (.int p1), .val (.int p2), .val (.int p3), .val (.int p4), .val (.ref r1), .unset, .unset, .unset, .unset, .unset, .unset, .unset] [(.int p1)])) _
      refine XS.ifYes X1.here hx rfl (pc0 := 13) (pc' := 20) rfl (hb hby at_13) rfl ((if0 _ _).trans (flt kn).2.1) (by decide) (by decide) ?_
      show Steps p.tables e below (T1.setTop (mkF m 20 #[.val (.int p1), .val (.int p2), .val (.int p3), .val (.int p4), .val (.ref r1), .unset, .unset, .unset, .unset, .unset, .unset, .unset] [])) _
      refine XS.iconst X1.here hx rfl (hb hby at_20) ?_
      show Steps p.tables e below (T1.setTop (mkF m 21 #[.val (.int p1), .val (.int p2), .val (.int p3), .val (.int p4), .val (.ref r1), .unset, .unset, .unset, .unset, .unset, .unset, .unset] [(.int (0 : Int32))])) _
      refine XS.istore X1.here hx rfl (hb hby at_21) rfl (l' := #[.val (.int p1), .val (.int p2), .val (.int p3), .val (.int p4), .val (.ref r1), .val (.int (0 : Int32)), .unset, .unset, .unset, .unset, .unset, .unset]) rfl ?_
      show Steps p.tables e below (T1.setTop (mkF m 23 #[.val (.int p1), .val (.int p2), .val (.int p3), .val (.int p4), .val (.ref r1), .val (.int (0 : Int32)), .unset, .unset, .unset, .unset, .unset, .unset] [])) _
      refine XS.iconst X1.here hx rfl (hb hby at_23) ?_
      show Steps p.tables e below (T1.setTop (mkF m 24 #[.val (.int p1), .val (.int p2), .val (.int p3), .val (.int p4), .val (.ref r1), .val (.int (0 : Int32)), .unset, .unset, .unset, .unset, .unset, .unset] [(.int (2 : Int32))])) _
      exact k
    obtain ⟨T19, h19, k19, X19, e19, E19, A19, G19, st19⟩ := newPE X1 hx hZ (hw _ (List.mem_of_getElem? (i := 8) rfl)) Kq1 (g := (mkF m 24 #[.val (.int p1), .val (.int p2), .val (.int p3), .val (.int p4), .val (.ref r1), .val (.int (0 : Int32)), .unset, .unset, .unset, .unset, .unset, .unset] [(.int (2 : Int32))])) rfl (hb hby at_24) rfl (by decide) (cap := 2) (by decide) (by decide) (by decide) (by decide) (ad := "[C") (by decide)
    obtain ⟨b19, g19⟩ : ∃ z, z = h0.size := ⟨_, rfl⟩
    rw [← g19] at A19 G19 st19
    have g_b19 : n0 ≤ b19 := Nat.le_trans (own_oldsz O) (Nat.le_of_eq g19.symm)
    replace O := O.ext E19
    replace hk := Nat.le_trans hk E19.1
    have V19 : Arv Z h19 b19 k19 .char (2 : Int32) [(.int (0 : Int32)), (.int (0 : Int32))] (.int (0 : Int32)) := (Arv.new A19 (by decide)).pad (pad_rep [] (.int (0 : Int32)) 2)
    refine own_go (B := T19.setTop (mkF m 26 #[.val (.int p1), .val (.int p2), .val (.int p3), .val (.int p4), .val (.ref r1), .val (.int (0 : Int32)), .unset, .unset, .unset, .unset, .unset, .unset] [(.ref b19)])) st19 ?_
    refine own_go (B := T19.setTop (mkF m 34 #[.val (.int p1), .val (.int p2), .val (.int p3), .val (.int p4), .val (.ref r1), .val (.int (0 : Int32)), .unset, .unset, .unset, .unset, .unset, .unset] [(.int ((p2 &&& (255 : Int32)).toUInt32.toUInt16.toUInt32.toInt32)), (.int (0 : Int32)), (.ref b19), (.ref b19)])) (fun t k => ?_) ?_
    · show Steps p.tables e below (T19.setTop (mkF m 26 #[.val (.int p1), .val (.int p2), .val (.int p3), .val (.int p4), .val (.ref r1), .val (.int (0 : Int32)), .unset, .unset, .unset, .unset, .unset, .unset] [(.ref b19)])) _
      refine XS.dup X19.here hx rfl (hb hby at_26) rfl rfl ?_
      show Steps p.tables e below (T19.setTop (mkF m 27 #[.val (.int p1), .val (.int p2), .val (.int p3), .val (.int p4), .val (.ref r1), .val (.int (0 : Int32)), .unset, .unset, .unset, .unset, .unset, .unset] [(.ref b19), (.ref b19)])) _
      refine XS.iconst X19.here hx rfl (hb hby at_27) ?_
      show Steps p.tables e below (T19.setTop (mkF m 28 #[.val (.int p1), .val (.int p2), .val (.int p3), .val (.int p4), .val (.ref r1), .val (.int (0 : Int32)), .unset, .unset, .unset, .unset, .unset, .unset] [(.int (0 : Int32)), (.ref b19), (.ref b19)])) _
      refine XS.iloadN X19.here hx rfl (hb hby at_28) rfl ?_
      show Steps p.tables e below (T19.setTop (mkF m 29 #[.val (.int p1), .val (.int p2), .val (.int p3), .val (.int p4), .val (.ref r1), .val (.int (0 : Int32)), .unset, .unset, .unset, .unset, .unset, .unset] [(.int p2), (.int (0 : Int32)), (.ref b19), (.ref b19)])) _
      refine XS.sipush X19.here hx rfl (hb hby at_29) ?_
      show Steps p.tables e below (T19.setTop (mkF m 32 #[.val (.int p1), .val (.int p2), .val (.int p3), .val (.int p4), .val (.ref r1), .val (.int (0 : Int32)), .unset, .unset, .unset, .unset, .unset, .unset] [(.int (255 : Int32)), (.int p2), (.int (0 : Int32)), (.ref b19), (.ref b19)])) _
      refine XS.iand X19.here hx rfl (hb hby at_32) rfl ?_
      show Steps p.tables e below (T19.setTop (mkF m 33 #[.val (.int p1), .val (.int p2), .val (.int p3), .val (.int p4), .val (.ref r1), .val (.int (0 : Int32)), .unset, .unset, .unset, .unset, .unset, .unset] [(.int (p2 &&& (255 : Int32))), (.int (0 : Int32)), (.ref b19), (.ref b19)])) _
      refine XS.i2c X19.here hx rfl (hb hby at_33) rfl ?_
      show Steps p.tables e below (T19.setTop (mkF m 34 #[.val (.int p1), .val (.int p2), .val (.int p3), .val (.int p4), .val (.ref r1), .val (.int (0 : Int32)), .unset, .unset, .unset, .unset, .unset, .unset] [(.int ((p2 &&& (255 : Int32)).toUInt32.toUInt16.toUInt32.toInt32)), (.int (0 : Int32)), (.ref b19), (.ref b19)])) _
      exact k
    rw [i2c_mask]
    obtain ⟨ca, hca⟩ : ∃ z : Int32, z = (p2 &&& (255 : Int32)) := ⟨_, rfl⟩
    rw [← hca]
    have bca : ¬ ca < 0 ∧ ¬ (255 : Int32) < ca := by rw [hca]; exact own_b255 _
    have cca : nar .char ca = ca := by rw [hca]; exact i2c_mask _
    obtain ⟨cl20, Ar20, q20, Sz20, Nn20, Hs20, Gt20⟩ := V19
    have hin20 : ¬ ((0 : Int32) < 0 ∨ cl20.slots.size ≤ ((0 : Int32)).toNatClampNeg) := inb_of Sz20 ⟨by decide, by decide⟩
    obtain ⟨T20, h20, X20, e20, W20, st20⟩ := stC X19 hx hZ e19 Ar20 (j := (0 : Int32)) hin20 (g := (mkF m 34 #[.val (.int p1), .val (.int p2), .val (.int p3), .val (.int p4), .val (.ref r1), .val (.int (0 : Int32)), .unset, .unset, .unset, .unset, .unset, .unset] [(.int ca), (.int (0 : Int32)), (.ref b19), (.ref b19)])) rfl rfl (hb hby at_34)
    have V20 := Arv.set Ar20 q20 Sz20 Nn20 Hs20 Gt20 (fits_nar_char _) W20 0 rfl (Nat.le_of_ble_eq_true rfl)
    rw [cca] at V20
    have V20 : Arv Z h20 b19 k19 .char (2 : Int32) [(.int ca), (.int (0 : Int32))] (.int (0 : Int32)) := V20
    replace G19 := G19.wr W20
    replace O := O.wr W20 g_b19
    replace hk := Nat.le_trans hk (Keep.of_wr W20).1
    replace N := Fr.snoc X20 N g_b19
    refine own_go (B := T20.setTop (mkF m 35 #[.val (.int p1), .val (.int p2), .val (.int p3), .val (.int p4), .val (.ref r1), .val (.int (0 : Int32)), .unset, .unset, .unset, .unset, .unset, .unset] [(.ref b19)])) st20 ?_
    refine own_go (B := T20.setTop (mkF m 46 #[.val (.int p1), .val (.int p2), .val (.int p3), .val (.int p4), .val (.ref r1), .val (.int (0 : Int32)), .unset, .unset, .unset, .unset, .unset, .unset] [(.int ((((p2.toUInt32 >>> ((8 : Int32) &&& 31).toUInt32).toInt32) &&& (255 : Int32)).toUInt32.toUInt16.toUInt32.toInt32)), (.int (1 : Int32)), (.ref b19), (.ref b19)])) (fun t k => ?_) ?_
    · show Steps p.tables e below (T20.setTop (mkF m 35 #[.val (.int p1), .val (.int p2), .val (.int p3), .val (.int p4), .val (.ref r1), .val (.int (0 : Int32)), .unset, .unset, .unset, .unset, .unset, .unset] [(.ref b19)])) _
      refine XS.dup X20.here hx rfl (hb hby at_35) rfl rfl ?_
      show Steps p.tables e below (T20.setTop (mkF m 36 #[.val (.int p1), .val (.int p2), .val (.int p3), .val (.int p4), .val (.ref r1), .val (.int (0 : Int32)), .unset, .unset, .unset, .unset, .unset, .unset] [(.ref b19), (.ref b19)])) _
      refine XS.iconst X20.here hx rfl (hb hby at_36) ?_
      show Steps p.tables e below (T20.setTop (mkF m 37 #[.val (.int p1), .val (.int p2), .val (.int p3), .val (.int p4), .val (.ref r1), .val (.int (0 : Int32)), .unset, .unset, .unset, .unset, .unset, .unset] [(.int (1 : Int32)), (.ref b19), (.ref b19)])) _
      refine XS.iloadN X20.here hx rfl (hb hby at_37) rfl ?_
      show Steps p.tables e below (T20.setTop (mkF m 38 #[.val (.int p1), .val (.int p2), .val (.int p3), .val (.int p4), .val (.ref r1), .val (.int (0 : Int32)), .unset, .unset, .unset, .unset, .unset, .unset] [(.int p2), (.int (1 : Int32)), (.ref b19), (.ref b19)])) _
      refine XS.bipush X20.here hx rfl (hb hby at_38) ?_
      show Steps p.tables e below (T20.setTop (mkF m 40 #[.val (.int p1), .val (.int p2), .val (.int p3), .val (.int p4), .val (.ref r1), .val (.int (0 : Int32)), .unset, .unset, .unset, .unset, .unset, .unset] [(.int (8 : Int32)), (.int p2), (.int (1 : Int32)), (.ref b19), (.ref b19)])) _
      refine XS.iushr X20.here hx rfl (hb hby at_40) rfl ?_
      show Steps p.tables e below (T20.setTop (mkF m 41 #[.val (.int p1), .val (.int p2), .val (.int p3), .val (.int p4), .val (.ref r1), .val (.int (0 : Int32)), .unset, .unset, .unset, .unset, .unset, .unset] [(.int ((p2.toUInt32 >>> ((8 : Int32) &&& 31).toUInt32).toInt32)), (.int (1 : Int32)), (.ref b19), (.ref b19)])) _
      refine XS.sipush X20.here hx rfl (hb hby at_41) ?_
      show Steps p.tables e below (T20.setTop (mkF m 44 #[.val (.int p1), .val (.int p2), .val (.int p3), .val (.int p4), .val (.ref r1), .val (.int (0 : Int32)), .unset, .unset, .unset, .unset, .unset, .unset] [(.int (255 : Int32)), (.int ((p2.toUInt32 >>> ((8 : Int32) &&& 31).toUInt32).toInt32)), (.int (1 : Int32)), (.ref b19), (.ref b19)])) _
      refine XS.iand X20.here hx rfl (hb hby at_44) rfl ?_
      show Steps p.tables e below (T20.setTop (mkF m 45 #[.val (.int p1), .val (.int p2), .val (.int p3), .val (.int p4), .val (.ref r1), .val (.int (0 : Int32)), .unset, .unset, .unset, .unset, .unset, .unset] [(.int (((p2.toUInt32 >>> ((8 : Int32) &&& 31).toUInt32).toInt32) &&& (255 : Int32))), (.int (1 : Int32)), (.ref b19), (.ref b19)])) _
      refine XS.i2c X20.here hx rfl (hb hby at_45) rfl ?_
      show Steps p.tables e below (T20.setTop (mkF m 46 #[.val (.int p1), .val (.int p2), .val (.int p3), .val (.int p4), .val (.ref r1), .val (.int (0 : Int32)), .unset, .unset, .unset, .unset, .unset, .unset] [(.int ((((p2.toUInt32 >>> ((8 : Int32) &&& 31).toUInt32).toInt32) &&& (255 : Int32)).toUInt32.toUInt16.toUInt32.toInt32)), (.int (1 : Int32)), (.ref b19), (.ref b19)])) _
      exact k
    rw [i2c_mask]
    obtain ⟨cb, hcb⟩ : ∃ z : Int32, z = (((p2.toUInt32 >>> ((8 : Int32) &&& 31).toUInt32).toInt32) &&& (255 : Int32)) := ⟨_, rfl⟩
    rw [← hcb]
    have bcb : ¬ cb < 0 ∧ ¬ (255 : Int32) < cb := by rw [hcb]; exact own_b255 _
    have ccb : nar .char cb = cb := by rw [hcb]; exact i2c_mask _
    obtain ⟨cl21, Ar21, q21, Sz21, Nn21, Hs21, Gt21⟩ := V20
    have hin21 : ¬ ((1 : Int32) < 0 ∨ cl21.slots.size ≤ ((1 : Int32)).toNatClampNeg) := inb_of Sz21 ⟨by decide, by decide⟩
    obtain ⟨T21, h21, X21, e21, W21, st21⟩ := stC X20 hx hZ e20 Ar21 (j := (1 : Int32)) hin21 (g := (mkF m 46 #[.val (.int p1), .val (.int p2), .val (.int p3), .val (.int p4), .val (.ref r1), .val (.int (0 : Int32)), .unset, .unset, .unset, .unset, .unset, .unset] [(.int cb), (.int (1 : Int32)), (.ref b19), (.ref b19)])) rfl rfl (hb hby at_46)
    have V21 := Arv.set Ar21 q21 Sz21 Nn21 Hs21 Gt21 (fits_nar_char _) W21 1 rfl (Nat.le_of_ble_eq_true rfl)
    rw [ccb] at V21
    have V21 : Arv Z h21 b19 k19 .char (2 : Int32) [(.int ca), (.int cb)] (.int (0 : Int32)) := V21
    replace G19 := G19.wr W21
    replace O := O.wr W21 g_b19
    replace hk := Nat.le_trans hk (Keep.of_wr W21).1
    replace N := Fr.snoc X21 N g_b19
    refine own_go (B := T21.setTop (mkF m 47 #[.val (.int p1), .val (.int p2), .val (.int p3), .val (.int p4), .val (.ref r1), .val (.int (0 : Int32)), .unset, .unset, .unset, .unset, .unset, .unset] [(.ref b19)])) st21 ?_
    refine own_go (B := T21.setTop (mkF m 49 #[.val (.int p1), .val (.int p2), .val (.int p3), .val (.int p4), .val (.ref r1), .val (.int (0 : Int32)), .val (.ref b19), .unset, .unset, .unset, .unset, .unset] [])) (fun t k => ?_) ?_
    · show Steps p.tables e below (T21.setTop (mkF m 47 #[.val (.int p1), .val (.int p2), .val (.int p3), .val (.int p4), .val (.ref r1), .val (.int (0 : Int32)), .unset, .unset, .unset, .unset, .unset, .unset] [(.ref b19)])) _
      refine XS.astore X21.here hx rfl (hb hby at_47) rfl rfl (l' := #[.val (.int p1), .val (.int p2), .val (.int p3), .val (.int p4), .val (.ref r1), .val (.int (0 : Int32)), .val (.ref b19), .unset, .unset, .unset, .unset, .unset]) rfl ?_
      show Steps p.tables e below (T21.setTop (mkF m 49 #[.val (.int p1), .val (.int p2), .val (.int p3), .val (.int p4), .val (.ref r1), .val (.int (0 : Int32)), .val (.ref b19), .unset, .unset, .unset, .unset, .unset] [])) _
      exact k
    obtain ⟨T22, h22, X22, e22, E22, A22, D22, -, st22⟩ := newO X21 hx hZ hown (hw _ (List.mem_of_getElem? (i := 9) rfl)) (hw _ (List.mem_of_getElem? (i := 10) rfl)) (hw _ (List.mem_of_getElem? (i := 11) rfl)) e21 (g := (mkF m 49 #[.val (.int p1), .val (.int p2), .val (.int p3), .val (.int p4), .val (.ref r1), .val (.int (0 : Int32)), .val (.ref b19), .unset, .unset, .unset, .unset, .unset] [])) rfl (hb hby at_49) (by decide) (by decide)
    obtain ⟨b22, g22⟩ : ∃ z, z = h21.size := ⟨_, rfl⟩
    rw [← g22] at A22 D22 st22
    have lt_b19_b22 : b19 < b22 := Nat.lt_of_lt_of_le G19.lt (Nat.le_of_eq g22.symm)
    have g_b22 : n0 ≤ b22 := Nat.le_trans (own_oldsz O) (Nat.le_of_eq g22.symm)
    replace G19 := G19.ext E22
    replace V21 := V21.ext E22
    replace O := O.ext E22
    replace hk := Nat.le_trans hk E22.1
    have F22_coder : Fld Z h22 b22 "java/lang/String" "coder" "B" (.int (0 : Int32)) := D22 (Or.inr (hw _ (List.mem_of_getElem? (i := 35) rfl))) (ty := .byte) (by decide)
    have F22_value : Fld Z h22 b22 "java/lang/String" "value" "[B" .null := D22 (Or.inr (hw _ (List.mem_of_getElem? (i := 37) rfl))) (ty := (.array .byte)) (by decide)
    refine own_go (B := T22.setTop (mkF m 52 #[.val (.int p1), .val (.int p2), .val (.int p3), .val (.int p4), .val (.ref r1), .val (.int (0 : Int32)), .val (.ref b19), .unset, .unset, .unset, .unset, .unset] [(.ref b22)])) st22 ?_
    refine own_go (B := T22.setTop (mkF m 55 #[.val (.int p1), .val (.int p2), .val (.int p3), .val (.int p4), .val (.ref r1), .val (.int (0 : Int32)), .val (.ref b19), .unset, .unset, .unset, .unset, .unset] [(.ref b19), (.ref b22), (.ref b22)])) (fun t k => ?_) ?_
    · show Steps p.tables e below (T22.setTop (mkF m 52 #[.val (.int p1), .val (.int p2), .val (.int p3), .val (.int p4), .val (.ref r1), .val (.int (0 : Int32)), .val (.ref b19), .unset, .unset, .unset, .unset, .unset] [(.ref b22)])) _
      refine XS.dup X22.here hx rfl (hb hby at_52) rfl rfl ?_
      show Steps p.tables e below (T22.setTop (mkF m 53 #[.val (.int p1), .val (.int p2), .val (.int p3), .val (.int p4), .val (.ref r1), .val (.int (0 : Int32)), .val (.ref b19), .unset, .unset, .unset, .unset, .unset] [(.ref b22), (.ref b22)])) _
      refine XS.aload X22.here hx rfl (hb hby at_53) rfl rfl ?_
      show Steps p.tables e below (T22.setTop (mkF m 55 #[.val (.int p1), .val (.int p2), .val (.int p3), .val (.int p4), .val (.ref r1), .val (.int (0 : Int32)), .val (.ref b19), .unset, .unset, .unset, .unset, .unset] [(.ref b19), (.ref b22), (.ref b22)])) _
      exact k
    have := bca
    have := bcb
    have hws : ∀ d ∈ StrChars.Road.words, d.before a0 Z = true := fun d hd => hw d ((by decide +kernel : ∀ d ∈ StrChars.Road.words, d ∈ tables_1) d hd)
    -- pc 55: java/lang/String.<init>
    obtain ⟨_, _, ⟨T23, L23, k23, n23⟩, -, X23, ⟨Lc23, hQ23, l23, y23, z23⟩, st23⟩ := X22.specialBack hx (y := (⟨"java/lang/String", "<init>", "([C)V"⟩ : MethodName)) rfl hown (mvT hZ (hw _ (List.mem_of_getElem? (i := 12) rfl))) (mvT hZ (hw _ (List.mem_of_getElem? (i := 13) rfl))) (mvT hZ (hw _ (List.mem_of_getElem? (i := 14) rfl))) (by decide) (StrChars.Road.backV (W := 1) hZ hws (kI := 4) (hw _ (List.mem_of_getElem? (i := 10) rfl)) (cs := ([ca, cb] : List Int32)) (bs := ([ca, cb] : List Int32).map (fun c => c.toInt8.toInt32)) (n := 2) g_b22 (own_oldsz O) A22 F22_value F22_coder V21 (S_C.ext O.2) hcs rfl rfl (by decide) (by decide) (by intro c hc; simp only [List.mem_cons, List.not_mem_nil, or_false] at hc; rcases hc with rfl | rfl <;> assumption) rfl (by decide) (by decide)) (g := (mkF m 55 #[.val (.int p1), .val (.int p2), .val (.int p3), .val (.int p4), .val (.ref r1), .val (.int (0 : Int32)), .val (.ref b19), .unset, .unset, .unset, .unset, .unset] [(.ref b19), (.ref b22), (.ref b22)])) rfl (by rw [hml]; rfl) (Steps.refl _) (a := b22) (argsL := [(.ref b19)]) (rest := [(.ref b22)]) (lenOf pd_7 rfl) rfl (by show 2 * 0 + _ ≤ _; exact Nat.le_of_eq rfl) (hb hby at_55) (fun _ hWm => ⟨rfl, e22, (by decide : 2 + 1 ≤ _), (by decide : 6 + 2 ≤ _)⟩)
    dsimp only [Pt.U, Pt.locs, Pt.cells, Pt.slots] at X23 l23 y23 z23 st23 hQ23
    subst l23 y23 z23
    obtain ⟨rfl, Nq23, Kq23, Gq23_0, Gq23_1, t23, kb23, u23, fq23, nq23, Gq23_2, Gq23_3⟩ := hQ23
    replace N := Fr.app N Nq23
    have lt_b19_t23 : b19 < t23 := Nat.lt_of_lt_of_le G19.lt fq23
    have lt_b22_t23 : b22 < t23 := Nat.lt_of_lt_of_le A22.lt fq23
    have g_t23 : n0 ≤ t23 := Nat.le_trans (own_oldsz O) fq23
    replace G19 := G19.keep Kq23
    replace V21 := V21.keep Kq23 (ninS (Nat.ne_of_lt lt_b19_b22) nin0)
    replace A22 := A22.keep Kq23
    clear F22_coder
    clear F22_value
    replace O := O.keep Kq23 (allS g_b22 all0)
    replace hk := Nat.le_trans hk Kq23.1
    refine own_go (B := T23.setTop (mkF m 58 #[.val (.int p1), .val (.int p2), .val (.int p3), .val (.int p4), .val (.ref r1), .val (.int (0 : Int32)), .val (.ref b19), .unset, .unset, .unset, .unset, .unset] [(.ref b22)])) (fun t k => st23.trans k) ?_
    refine own_go (B := T23.setTop (mkF m 78 #[.val (.int p1), .val (.int p2), .val (.int p3), .val (.int p4), .val (.ref r1), .val (.int (0 : Int32)), .val (.ref b19), .val (.ref b22), .unset, .unset, .unset, .unset] [(.int ((((p2.toUInt32 >>> ((16 : Int32) &&& 31).toUInt32).toInt32) &&& (255 : Int32)).toUInt32.toUInt16.toUInt32.toInt32))])) (fun t k => ?_) ?_
    · show Steps p.tables e below (T23.setTop (mkF m 58 #[.val (.int p1), .val (.int p2), .val (.int p3), .val (.int p4), .val (.ref r1), .val (.int (0 : Int32)), .val (.ref b19), .unset, .unset, .unset, .unset, .unset] [(.ref b22)])) _
      refine XS.astore X23.here hx rfl (hb hby at_58) rfl rfl (l' := #[.val (.int p1), .val (.int p2), .val (.int p3), .val (.int p4), .val (.ref r1), .val (.int (0 : Int32)), .val (.ref b19), .val (.ref b22), .unset, .unset, .unset, .unset]) rfl ?_
      show Steps p.tables e below (T23.setTop (mkF m 60 #[.val (.int p1), .val (.int p2), .val (.int p3), .val (.int p4), .val (.ref r1), .val (.int (0 : Int32)), .val (.ref b19), .val (.ref b22), .unset, .unset, .unset, .unset] [])) _
      refine XS.iload X23.here hx rfl (hb hby at_60) rfl ?_
      show Steps p.tables e below (T23.setTop (mkF m 62 #[.val (.int p1), .val (.int p2), .val (.int p3), .val (.int p4), .val (.ref r1), .val (.int (0 : Int32)), .val (.ref b19), .val (.ref b22), .unset, .unset, .unset, .unset] [(.int (0 : Int32))])) _
      refine XS.ifYes X23.here hx rfl (pc0 := 62) (pc' := 69) rfl (hb hby at_62) rfl ((if0 _ _).trans (teq (by decide)).1) (by decide) (by decide) ?_
      show Steps p.tables e below (T23.setTop (mkF m 69 #[.val (.int p1), .val (.int p2), .val (.int p3), .val (.int p4), .val (.ref r1), .val (.int (0 : Int32)), .val (.ref b19), .val (.ref b22), .unset, .unset, .unset, .unset] [])) _
      refine XS.iloadN X23.here hx rfl (hb hby at_69) rfl ?_
      show Steps p.tables e below (T23.setTop (mkF m 70 #[.val (.int p1), .val (.int p2), .val (.int p3), .val (.int p4), .val (.ref r1), .val (.int (0 : Int32)), .val (.ref b19), .val (.ref b22), .unset, .unset, .unset, .unset] [(.int p2)])) _
      refine XS.bipush X23.here hx rfl (hb hby at_70) ?_
      show Steps p.tables e below (T23.setTop (mkF m 72 #[.val (.int p1), .val (.int p2), .val (.int p3), .val (.int p4), .val (.ref r1), .val (.int (0 : Int32)), .val (.ref b19), .val (.ref b22), .unset, .unset, .unset, .unset] [(.int (16 : Int32)), (.int p2)])) _
      refine XS.iushr X23.here hx rfl (hb hby at_72) rfl ?_
      show Steps p.tables e below (T23.setTop (mkF m 73 #[.val (.int p1), .val (.int p2), .val (.int p3), .val (.int p4), .val (.ref r1), .val (.int (0 : Int32)), .val (.ref b19), .val (.ref b22), .unset, .unset, .unset, .unset] [(.int ((p2.toUInt32 >>> ((16 : Int32) &&& 31).toUInt32).toInt32))])) _
      refine XS.sipush X23.here hx rfl (hb hby at_73) ?_
      show Steps p.tables e below (T23.setTop (mkF m 76 #[.val (.int p1), .val (.int p2), .val (.int p3), .val (.int p4), .val (.ref r1), .val (.int (0 : Int32)), .val (.ref b19), .val (.ref b22), .unset, .unset, .unset, .unset] [(.int (255 : Int32)), (.int ((p2.toUInt32 >>> ((16 : Int32) &&& 31).toUInt32).toInt32))])) _
      refine XS.iand X23.here hx rfl (hb hby at_76) rfl ?_
      show Steps p.tables e below (T23.setTop (mkF m 77 #[.val (.int p1), .val (.int p2), .val (.int p3), .val (.int p4), .val (.ref r1), .val (.int (0 : Int32)), .val (.ref b19), .val (.ref b22), .unset, .unset, .unset, .unset] [(.int (((p2.toUInt32 >>> ((16 : Int32) &&& 31).toUInt32).toInt32) &&& (255 : Int32)))])) _
      refine XS.i2c X23.here hx rfl (hb hby at_77) rfl ?_
      show Steps p.tables e below (T23.setTop (mkF m 78 #[.val (.int p1), .val (.int p2), .val (.int p3), .val (.int p4), .val (.ref r1), .val (.int (0 : Int32)), .val (.ref b19), .val (.ref b22), .unset, .unset, .unset, .unset] [(.int ((((p2.toUInt32 >>> ((16 : Int32) &&& 31).toUInt32).toInt32) &&& (255 : Int32)).toUInt32.toUInt16.toUInt32.toInt32))])) _
      exact k
    rw [i2c_mask]
    obtain ⟨cc, hcc⟩ : ∃ z : Int32, z = (((p2.toUInt32 >>> ((16 : Int32) &&& 31).toUInt32).toInt32) &&& (255 : Int32)) := ⟨_, rfl⟩
    rw [← hcc]
    have bcc : ¬ cc < 0 ∧ ¬ (255 : Int32) < cc := by rw [hcc]; exact own_b255 _
    have ccc : nar .char cc = cc := by rw [hcc]; exact i2c_mask _
    -- pc 78: java/lang/String.valueOf
    obtain ⟨_, _, ⟨T24, L24, k24, n24⟩, -, X24, ⟨Lc24, hQ24, l24, y24, z24⟩, st24⟩ := Jvm.LawKit.callS X23 hx (y := (⟨"java/lang/String", "valueOf", "(C)Ljava/lang/String;"⟩ : MethodName)) hown (mvT hZ (hw _ (List.mem_of_getElem? (i := 38) rfl))) (mvT hZ (hw _ (List.mem_of_getElem? (i := 39) rfl))) (mvT hZ (hw _ (List.mem_of_getElem? (i := 11) rfl))) (mvT hZ (hw _ (List.mem_of_getElem? (i := 40) rfl))) (by decide) (backOf (W := 0) (rmVO l Z a0 hw [] cc zc T23.heap n0 O S_C bcc.2 hcs) hZ (hw _ (List.mem_of_getElem? (i := 40) rfl)) (hw _ (List.mem_of_getElem? (i := 11) rfl)) (by decide) (by decide)) (g := (mkF m 78 #[.val (.int p1), .val (.int p2), .val (.int p3), .val (.int p4), .val (.ref r1), .val (.int (0 : Int32)), .val (.ref b19), .val (.ref b22), .unset, .unset, .unset, .unset] [(.int cc)])) rfl (by rw [hml]; rfl) (argsL := [(.int cc)]) (rest := []) (lenOf pd_13 rfl) rfl (by show 2 * 0 + _ ≤ _; exact Nat.le_of_eq rfl) (hb hby at_78) (fun _ hWm => ⟨rfl, rfl, (by decide : 3 + 2 ≤ _), (by decide : 8 + 5 ≤ _)⟩)
    dsimp only [Pt.U, Pt.locs, Pt.cells, Pt.slots] at X24 l24 y24 z24 st24 hQ24
    subst l24 y24 z24
    obtain ⟨r24, t24, k24, rfl, Nq24, Kq24, fq24_r, fq24_t, Gq24_0, Gq24_1, Gq24_2, Gq24_3⟩ := hQ24
    replace N := Fr.app N Nq24
    have lt_b19_r24 : b19 < r24 := Nat.lt_of_lt_of_le G19.lt fq24_r
    have lt_b22_r24 : b22 < r24 := Nat.lt_of_lt_of_le Gq23_0.lt fq24_r
    have lt_t23_r24 : t23 < r24 := Nat.lt_of_lt_of_le Gq23_3.lt fq24_r
    have g_r24 : n0 ≤ r24 := Nat.le_trans (own_oldsz O) fq24_r
    have lt_b19_t24 : b19 < t24 := Nat.lt_of_lt_of_le G19.lt fq24_t
    have lt_b22_t24 : b22 < t24 := Nat.lt_of_lt_of_le Gq23_0.lt fq24_t
    have lt_t23_t24 : t23 < t24 := Nat.lt_of_lt_of_le Gq23_3.lt fq24_t
    have g_t24 : n0 ≤ t24 := Nat.le_trans (own_oldsz O) fq24_t
    replace G19 := G19.keep Kq24
    replace V21 := V21.keep Kq24 nin0
    replace Gq23_0 := Gq23_0.keep Kq24
    replace Gq23_1 := Gq23_1.keep Kq24 nin0
    replace Gq23_2 := Gq23_2.keep Kq24 nin0
    replace Gq23_3 := Gq23_3.keep Kq24 nin0
    replace O := O.keep Kq24 all0
    replace hk := Nat.le_trans hk Kq24.1
    refine own_go (B := T24.setTop (mkF m 81 #[.val (.int p1), .val (.int p2), .val (.int p3), .val (.int p4), .val (.ref r1), .val (.int (0 : Int32)), .val (.ref b19), .val (.ref b22), .unset, .unset, .unset, .unset] [(.ref r24)])) st24 ?_
    refine own_go (B := T24.setTop (mkF m 83 #[.val (.int p1), .val (.int p2), .val (.int p3), .val (.int p4), .val (.ref r1), .val (.int (0 : Int32)), .val (.ref b19), .val (.ref b22), .val (.ref r24), .unset, .unset, .unset] [])) (fun t k => ?_) ?_
    · show Steps p.tables e below (T24.setTop (mkF m 81 #[.val (.int p1), .val (.int p2), .val (.int p3), .val (.int p4), .val (.ref r1), .val (.int (0 : Int32)), .val (.ref b19), .val (.ref b22), .unset, .unset, .unset, .unset] [(.ref r24)])) _
      refine XS.astore X24.here hx rfl (hb hby at_81) rfl rfl (l' := #[.val (.int p1), .val (.int p2), .val (.int p3), .val (.int p4), .val (.ref r1), .val (.int (0 : Int32)), .val (.ref b19), .val (.ref b22), .val (.ref r24), .unset, .unset, .unset]) rfl ?_
      show Steps p.tables e below (T24.setTop (mkF m 83 #[.val (.int p1), .val (.int p2), .val (.int p3), .val (.int p4), .val (.ref r1), .val (.int (0 : Int32)), .val (.ref b19), .val (.ref b22), .val (.ref r24), .unset, .unset, .unset] [])) _
      exact k
    clear G19 V21 Gq23_0 Gq23_1 Gq23_2 Gq23_3 Gq24_0 Gq24_1 Gq24_2 Gq24_3
    obtain ⟨T25, h25, X25, e25, E25, A25, D25, -, st25⟩ := newO X24 hx hZ hown (hw _ (List.mem_of_getElem? (i := 52) rfl)) (hw _ (List.mem_of_getElem? (i := 53) rfl)) (hw _ (List.mem_of_getElem? (i := 54) rfl)) rfl (g := (mkF m 83 #[.val (.int p1), .val (.int p2), .val (.int p3), .val (.int p4), .val (.ref r1), .val (.int (0 : Int32)), .val (.ref b19), .val (.ref b22), .val (.ref r24), .unset, .unset, .unset] [])) rfl (hb hby at_83) (by decide) (by decide)
    obtain ⟨b25, g25⟩ : ∃ z, z = T24.heap.size := ⟨_, rfl⟩
    rw [← g25] at A25 D25 st25
    have g_b25 : n0 ≤ b25 := Nat.le_trans (own_oldsz O) (Nat.le_of_eq g25.symm)
    replace O := O.ext E25
    replace hk := Nat.le_trans hk E25.1
    have F25_database : Fld Z h25 b25 "com/example/nasute/nasute/sql/ObjectName" "database" "Ljava/lang/String;" .null := D25 (Or.inr (hw _ (List.mem_of_getElem? (i := 72) rfl))) (ty := (.object "java/lang/String")) (by decide)
    have F25_name : Fld Z h25 b25 "com/example/nasute/nasute/sql/ObjectName" "name" "Ljava/lang/String;" .null := D25 (Or.inr (hw _ (List.mem_of_getElem? (i := 74) rfl))) (ty := (.object "java/lang/String")) (by decide)
    refine own_go (B := T25.setTop (mkF m 86 #[.val (.int p1), .val (.int p2), .val (.int p3), .val (.int p4), .val (.ref r1), .val (.int (0 : Int32)), .val (.ref b19), .val (.ref b22), .val (.ref r24), .unset, .unset, .unset] [(.ref b25)])) st25 ?_
    refine own_go (B := T25.setTop (mkF m 91 #[.val (.int p1), .val (.int p2), .val (.int p3), .val (.int p4), .val (.ref r1), .val (.int (0 : Int32)), .val (.ref b19), .val (.ref b22), .val (.ref r24), .unset, .unset, .unset] [(.ref b22), (.ref r24), (.ref b25), (.ref b25)])) (fun t k => ?_) ?_
    · show Steps p.tables e below (T25.setTop (mkF m 86 #[.val (.int p1), .val (.int p2), .val (.int p3), .val (.int p4), .val (.ref r1), .val (.int (0 : Int32)), .val (.ref b19), .val (.ref b22), .val (.ref r24), .unset, .unset, .unset] [(.ref b25)])) _
      refine XS.dup X25.here hx rfl (hb hby at_86) rfl rfl ?_
      show Steps p.tables e below (T25.setTop (mkF m 87 #[.val (.int p1), .val (.int p2), .val (.int p3), .val (.int p4), .val (.ref r1), .val (.int (0 : Int32)), .val (.ref b19), .val (.ref b22), .val (.ref r24), .unset, .unset, .unset] [(.ref b25), (.ref b25)])) _
      refine XS.aload X25.here hx rfl (hb hby at_87) rfl rfl ?_
      show Steps p.tables e below (T25.setTop (mkF m 89 #[.val (.int p1), .val (.int p2), .val (.int p3), .val (.int p4), .val (.ref r1), .val (.int (0 : Int32)), .val (.ref b19), .val (.ref b22), .val (.ref r24), .unset, .unset, .unset] [(.ref r24), (.ref b25), (.ref b25)])) _
      refine XS.aload X25.here hx rfl (hb hby at_89) rfl rfl ?_
      show Steps p.tables e below (T25.setTop (mkF m 91 #[.val (.int p1), .val (.int p2), .val (.int p3), .val (.int p4), .val (.ref r1), .val (.int (0 : Int32)), .val (.ref b19), .val (.ref b22), .val (.ref r24), .unset, .unset, .unset] [(.ref b22), (.ref r24), (.ref b25), (.ref b25)])) _
      exact k
    -- pc 91: com/example/nasute/nasute/sql/ObjectName.<init>
    obtain ⟨_, _, ⟨T26, L26, k26, n26⟩, -, X26, hSq26, hgq26, ⟨Lc26, hQ26, l26, y26, z26⟩, st26⟩ := X25.specialBackS hx (y := (⟨"com/example/nasute/nasute/sql/ObjectName", "<init>", "(Ljava/lang/String;Ljava/lang/String;)V"⟩ : MethodName)) rfl hown (mvT hZ (hw _ (List.mem_of_getElem? (i := 55) rfl))) (mvT hZ (hw _ (List.mem_of_getElem? (i := 56) rfl))) (mvT hZ (hw _ (List.mem_of_getElem? (i := 57) rfl))) (by decide) (backOfS (W := 1) (rmON1 l Z a0 hw [] b25 r24 b22 h25 n0 O A25 F25_database F25_name g_b25) hZ (hw _ (List.mem_of_getElem? (i := 57) rfl)) (hw _ (List.mem_of_getElem? (i := 54) rfl)) (by decide) (by decide)) (g := (mkF m 91 #[.val (.int p1), .val (.int p2), .val (.int p3), .val (.int p4), .val (.ref r1), .val (.int (0 : Int32)), .val (.ref b19), .val (.ref b22), .val (.ref r24), .unset, .unset, .unset] [(.ref b22), (.ref r24), (.ref b25), (.ref b25)])) rfl (by rw [hml]; rfl) (Steps.refl _) (a := b25) (argsL := [(.ref r24), (.ref b22)]) (rest := [(.ref b25)]) (lenOf pd_8 rfl) rfl (by show 2 * 0 + _ ≤ _; exact Nat.le_of_eq rfl) (hb hby at_91) (fun _ hWm => ⟨rfl, e25, (by decide : 6 + 2 ≤ _), (by decide : 15 + 20 ≤ _)⟩)
    dsimp only [Pt.U, Pt.locs, Pt.cells, Pt.slots] at X26 l26 y26 z26 st26 hQ26 hSq26 hgq26
    subst l26 y26 z26
    obtain ⟨X26, hS, hZ, hown⟩ := rebS hS (by rw [e25]; exact hk) X26 hSq26 hgq26 hZ hown
    obtain ⟨rfl, Nq26, Kq26⟩ := hQ26
    replace N := Fr.app N Nq26
    replace A25 := A25.keep Kq26
    clear F25_database
    clear F25_name
    replace O := O.keep Kq26 (allS g_b25 all0)
    have hk : T26.heap.size ≤ T26.heap.size := Nat.le_refl _
    refine own_go (B := T26.setTop (mkF m 94 #[.val (.int p1), .val (.int p2), .val (.int p3), .val (.int p4), .val (.ref r1), .val (.int (0 : Int32)), .val (.ref b19), .val (.ref b22), .val (.ref r24), .unset, .unset, .unset] [(.ref b25)])) (fun t k => st26.trans k) ?_
    refine own_go (B := T26.setTop (mkF m 96 #[.val (.int p1), .val (.int p2), .val (.int p3), .val (.int p4), .val (.ref r1), .val (.int (0 : Int32)), .val (.ref b19), .val (.ref b22), .val (.ref r24), .val (.ref b25), .unset, .unset] [])) (fun t k => ?_) ?_
    · show Steps p.tables e below (T26.setTop (mkF m 94 #[.val (.int p1), .val (.int p2), .val (.int p3), .val (.int p4), .val (.ref r1), .val (.int (0 : Int32)), .val (.ref b19), .val (.ref b22), .val (.ref r24), .unset, .unset, .unset] [(.ref b25)])) _
      refine XS.astore X26.here hx rfl (hb hby at_94) rfl rfl (l' := #[.val (.int p1), .val (.int p2), .val (.int p3), .val (.int p4), .val (.ref r1), .val (.int (0 : Int32)), .val (.ref b19), .val (.ref b22), .val (.ref r24), .val (.ref b25), .unset, .unset]) rfl ?_
      show Steps p.tables e below (T26.setTop (mkF m 96 #[.val (.int p1), .val (.int p2), .val (.int p3), .val (.int p4), .val (.ref r1), .val (.int (0 : Int32)), .val (.ref b19), .val (.ref b22), .val (.ref r24), .val (.ref b25), .unset, .unset] [])) _
      exact k
    obtain ⟨T27, h27, X27, e27, E27, A27, D27, -, st27⟩ := newO X26 hx hZ hown (hw _ (List.mem_of_getElem? (i := 75) rfl)) (hw _ (List.mem_of_getElem? (i := 76) rfl)) (hw _ (List.mem_of_getElem? (i := 77) rfl)) rfl (g := (mkF m 96 #[.val (.int p1), .val (.int p2), .val (.int p3), .val (.int p4), .val (.ref r1), .val (.int (0 : Int32)), .val (.ref b19), .val (.ref b22), .val (.ref r24), .val (.ref b25), .unset, .unset] [])) rfl (hb hby at_96) (by decide) (by decide)
    obtain ⟨b27, g27⟩ : ∃ z, z = T26.heap.size := ⟨_, rfl⟩
    rw [← g27] at A27 D27 st27
    have lt_b25_b27 : b25 < b27 := Nat.lt_of_lt_of_le A25.lt (Nat.le_of_eq g27.symm)
    have g_b27 : n0 ≤ b27 := Nat.le_trans (own_oldsz O) (Nat.le_of_eq g27.symm)
    replace A25 := A25.ext E27
    replace O := O.ext E27
    replace hk := Nat.le_trans hk E27.1
    have F27_table : Fld Z h27 b27 "com/example/nasute/nasute/sql/ColumnAccess$Every" "table" "Lcom/example/nasute/nasute/sql/ObjectName;" .null := D27 (Or.inr (hw _ (List.mem_of_getElem? (i := 86) rfl))) (ty := (.object "com/example/nasute/nasute/sql/ObjectName")) (by decide)
    have F27_operation : Fld Z h27 b27 "com/example/nasute/nasute/sql/ColumnAccess$Every" "operation" "Lcom/example/nasute/nasute/sql/Operation;" .null := D27 (Or.inr (hw _ (List.mem_of_getElem? (i := 88) rfl))) (ty := (.object "com/example/nasute/nasute/sql/Operation")) (by decide)
    have F27_position : Fld Z h27 b27 "com/example/nasute/nasute/sql/ColumnAccess$Every" "position" "I" (.int (0 : Int32)) := D27 (Or.inr (hw _ (List.mem_of_getElem? (i := 90) rfl))) (ty := .int) (by decide)
    refine own_go (B := T27.setTop (mkF m 99 #[.val (.int p1), .val (.int p2), .val (.int p3), .val (.int p4), .val (.ref r1), .val (.int (0 : Int32)), .val (.ref b19), .val (.ref b22), .val (.ref r24), .val (.ref b25), .unset, .unset] [(.ref b27)])) st27 ?_
    refine own_go (B := T27.setTop (mkF m 105 #[.val (.int p1), .val (.int p2), .val (.int p3), .val (.int p4), .val (.ref r1), .val (.int (0 : Int32)), .val (.ref b19), .val (.ref b22), .val (.ref r24), .val (.ref b25), .unset, .unset] [(.int p3), (.ref r1), (.ref b25), (.ref b27), (.ref b27)])) (fun t k => ?_) ?_
    · show Steps p.tables e below (T27.setTop (mkF m 99 #[.val (.int p1), .val (.int p2), .val (.int p3), .val (.int p4), .val (.ref r1), .val (.int (0 : Int32)), .val (.ref b19), .val (.ref b22), .val (.ref r24), .val (.ref b25), .unset, .unset] [(.ref b27)])) _
      refine XS.dup X27.here hx rfl (hb hby at_99) rfl rfl ?_
      show Steps p.tables e below (T27.setTop (mkF m 100 #[.val (.int p1), .val (.int p2), .val (.int p3), .val (.int p4), .val (.ref r1), .val (.int (0 : Int32)), .val (.ref b19), .val (.ref b22), .val (.ref r24), .val (.ref b25), .unset, .unset] [(.ref b27), (.ref b27)])) _
      refine XS.aload X27.here hx rfl (hb hby at_100) rfl rfl ?_
      show Steps p.tables e below (T27.setTop (mkF m 102 #[.val (.int p1), .val (.int p2), .val (.int p3), .val (.int p4), .val (.ref r1), .val (.int (0 : Int32)), .val (.ref b19), .val (.ref b22), .val (.ref r24), .val (.ref b25), .unset, .unset] [(.ref b25), (.ref b27), (.ref b27)])) _
      refine XS.aload X27.here hx rfl (hb hby at_102) rfl rfl ?_
      show Steps p.tables e below (T27.setTop (mkF m 104 #[.val (.int p1), .val (.int p2), .val (.int p3), .val (.int p4), .val (.ref r1), .val (.int (0 : Int32)), .val (.ref b19), .val (.ref b22), .val (.ref r24), .val (.ref b25), .unset, .unset] [(.ref r1), (.ref b25), (.ref b27), (.ref b27)])) _
      refine XS.iloadN X27.here hx rfl (hb hby at_104) rfl ?_
      show Steps p.tables e below (T27.setTop (mkF m 105 #[.val (.int p1), .val (.int p2), .val (.int p3), .val (.int p4), .val (.ref r1), .val (.int (0 : Int32)), .val (.ref b19), .val (.ref b22), .val (.ref r24), .val (.ref b25), .unset, .unset] [(.int p3), (.ref r1), (.ref b25), (.ref b27), (.ref b27)])) _
      exact k
    -- pc 105: com/example/nasute/nasute/sql/ColumnAccess$Every.<init>
    obtain ⟨_, _, ⟨T28, L28, k28, n28⟩, -, X28, hSq28, hgq28, ⟨Lc28, hQ28, l28, y28, z28⟩, st28⟩ := X27.specialBackS hx (y := (⟨"com/example/nasute/nasute/sql/ColumnAccess$Every", "<init>", "(Lcom/example/nasute/nasute/sql/ObjectName;Lcom/example/nasute/nasute/sql/Operation;I)V"⟩ : MethodName)) rfl hown (mvT hZ (hw _ (List.mem_of_getElem? (i := 78) rfl))) (mvT hZ (hw _ (List.mem_of_getElem? (i := 79) rfl))) (mvT hZ (hw _ (List.mem_of_getElem? (i := 80) rfl))) (by decide) (backOfS (W := 1) (rmEvI l Z a0 hw [] b27 b25 r1 p3 h27 n0 O A27 F27_table F27_operation F27_position g_b27) hZ (hw _ (List.mem_of_getElem? (i := 80) rfl)) (hw _ (List.mem_of_getElem? (i := 77) rfl)) (by decide) (by decide)) (g := (mkF m 105 #[.val (.int p1), .val (.int p2), .val (.int p3), .val (.int p4), .val (.ref r1), .val (.int (0 : Int32)), .val (.ref b19), .val (.ref b22), .val (.ref r24), .val (.ref b25), .unset, .unset] [(.int p3), (.ref r1), (.ref b25), (.ref b27), (.ref b27)])) rfl (by rw [hml]; rfl) (Steps.refl _) (a := b27) (argsL := [(.ref b25), (.ref r1), (.int p3)]) (rest := [(.ref b27)]) (lenOf pd_5 rfl) rfl (by show 2 * 0 + _ ≤ _; exact Nat.le_of_eq rfl) (hb hby at_105) (fun _ hWm => ⟨rfl, e27, (by decide : 9 + 4 ≤ _), (by decide : 38 + 64 ≤ _)⟩)
    dsimp only [Pt.U, Pt.locs, Pt.cells, Pt.slots] at X28 l28 y28 z28 st28 hQ28 hSq28 hgq28
    subst l28 y28 z28
    obtain ⟨X28, hS, hZ, hown⟩ := rebS hS (by rw [e27]; exact hk) X28 hSq28 hgq28 hZ hown
    obtain ⟨rfl, Nq28, Kq28, Gq28_0, Gq28_1, Gq28_2⟩ := hQ28
    replace N := Fr.app N Nq28
    replace A25 := A25.keep Kq28
    replace A27 := A27.keep Kq28
    clear F27_table
    clear F27_operation
    clear F27_position
    replace O := O.keep Kq28 (allS g_b27 all0)
    have hk : T28.heap.size ≤ T28.heap.size := Nat.le_refl _
    refine own_go (B := T28.setTop (mkF m 108 #[.val (.int p1), .val (.int p2), .val (.int p3), .val (.int p4), .val (.ref r1), .val (.int (0 : Int32)), .val (.ref b19), .val (.ref b22), .val (.ref r24), .val (.ref b25), .unset, .unset] [(.ref b27)])) (fun t k => st28.trans k) ?_
    refine own_go (B := T28.setTop (mkF m 113 #[.val (.int p1), .val (.int p2), .val (.int p3), .val (.int p4), .val (.ref r1), .val (.int (0 : Int32)), .val (.ref b19), .val (.ref b22), .val (.ref r24), .val (.ref b25), .val (.ref b27), .unset] [(.int p4), (.ref b27)])) (fun t k => ?_) ?_
    · show Steps p.tables e below (T28.setTop (mkF m 108 #[.val (.int p1), .val (.int p2), .val (.int p3), .val (.int p4), .val (.ref r1), .val (.int (0 : Int32)), .val (.ref b19), .val (.ref b22), .val (.ref r24), .val (.ref b25), .unset, .unset] [(.ref b27)])) _
      refine XS.astore X28.here hx rfl (hb hby at_108) rfl rfl (l' := #[.val (.int p1), .val (.int p2), .val (.int p3), .val (.int p4), .val (.ref r1), .val (.int (0 : Int32)), .val (.ref b19), .val (.ref b22), .val (.ref r24), .val (.ref b25), .val (.ref b27), .unset]) rfl ?_
      show Steps p.tables e below (T28.setTop (mkF m 110 #[.val (.int p1), .val (.int p2), .val (.int p3), .val (.int p4), .val (.ref r1), .val (.int (0 : Int32)), .val (.ref b19), .val (.ref b22), .val (.ref r24), .val (.ref b25), .val (.ref b27), .unset] [])) _
      refine XS.aload X28.here hx rfl (hb hby at_110) rfl rfl ?_
      show Steps p.tables e below (T28.setTop (mkF m 112 #[.val (.int p1), .val (.int p2), .val (.int p3), .val (.int p4), .val (.ref r1), .val (.int (0 : Int32)), .val (.ref b19), .val (.ref b22), .val (.ref r24), .val (.ref b25), .val (.ref b27), .unset] [(.ref b27)])) _
      refine XS.iloadN X28.here hx rfl (hb hby at_112) rfl ?_
      show Steps p.tables e below (T28.setTop (mkF m 113 #[.val (.int p1), .val (.int p2), .val (.int p3), .val (.int p4), .val (.ref r1), .val (.int (0 : Int32)), .val (.ref b19), .val (.ref b22), .val (.ref r24), .val (.ref b25), .val (.ref b27), .unset] [(.int p4), (.ref b27)])) _
      exact k
    -- pc 113: com/example/nasute/nasute/sql/ColumnAccess$Every.at
    obtain ⟨cq29, kq29, q29a, q29b, q29c⟩ := isOf hZ rfl A27
    obtain ⟨_, _, ⟨T29, L29, k29, n29⟩, -, X29, hSq29, hgq29, ⟨Lc29, hQ29, l29, y29, z29⟩, st29⟩ := X28.virtualBackS hx (y := (⟨"com/example/nasute/nasute/sql/ColumnAccess$Every", "at", "(I)Lcom/example/nasute/nasute/sql/ColumnAccess$Every;"⟩ : MethodName)) (z := (⟨"com/example/nasute/nasute/sql/ColumnAccess$Every", "at", "(I)Lcom/example/nasute/nasute/sql/ColumnAccess$Every;"⟩ : MethodName)) hown (mvT hZ (hw _ (List.mem_of_getElem? (i := 91) rfl))) (mvT hZ (hw _ (List.mem_of_getElem? (i := 92) rfl))) (notFace_of_selects (args := #[]) (mvT hZ (hw _ (List.mem_of_getElem? (i := 94) rfl)))) (mvT hZ (hw _ (List.mem_of_getElem? (i := 94) rfl))) (mvT hZ (hw _ (List.mem_of_getElem? (i := 93) rfl))) (by decide) (backOfS (W := 0) (rmAt l Z a0 hw [] b27 b25 r1 p4 T28.heap n0 O Gq28_0 Gq28_1) hZ (hw _ (List.mem_of_getElem? (i := 95) rfl)) (hw _ (List.mem_of_getElem? (i := 77) rfl)) (by decide) (by decide)) q29a q29c (g := (mkF m 113 #[.val (.int p1), .val (.int p2), .val (.int p3), .val (.int p4), .val (.ref r1), .val (.int (0 : Int32)), .val (.ref b19), .val (.ref b22), .val (.ref r24), .val (.ref b25), .val (.ref b27), .unset] [(.int p4), (.ref b27)])) rfl (by rw [hml]; rfl) (Steps.refl _) (argsL := [(.int p4)]) (rest := []) (lenOf pd_9 rfl) rfl (by show 2 * 0 + _ ≤ _; exact Nat.le_of_eq rfl) (hb hby at_113) (fun _ hWm => ⟨rfl, rfl, (by decide : 13 + 5 ≤ _), (by decide : 102 + 67 ≤ _)⟩)
    dsimp only [Pt.U, Pt.locs, Pt.cells, Pt.slots] at X29 l29 y29 z29 st29 hQ29 hSq29 hgq29
    subst l29 y29 z29
    obtain ⟨X29, hS, hZ, hown⟩ := rebS hS hk X29 hSq29 hgq29 hZ hown
    obtain ⟨r29, rfl, Nq29, Kq29, fq29_r, Gq29_0, Gq29_1, Gq29_2, Gq29_3⟩ := hQ29
    replace N := Fr.app N Nq29
    have lt_b25_r29 : b25 < r29 := Nat.lt_of_lt_of_le A25.lt fq29_r
    have lt_b27_r29 : b27 < r29 := Nat.lt_of_lt_of_le A27.lt fq29_r
    have g_r29 : n0 ≤ r29 := Nat.le_trans (own_oldsz O) fq29_r
    replace A25 := A25.keep Kq29
    replace A27 := A27.keep Kq29
    replace Gq28_0 := Gq28_0.keep Kq29 nin0
    replace Gq28_1 := Gq28_1.keep Kq29 nin0
    replace Gq28_2 := Gq28_2.keep Kq29 nin0
    replace O := O.keep Kq29 all0
    have hk : T29.heap.size ≤ T29.heap.size := Nat.le_refl _
    refine own_go (B := T29.setTop (mkF m 116 #[.val (.int p1), .val (.int p2), .val (.int p3), .val (.int p4), .val (.ref r1), .val (.int (0 : Int32)), .val (.ref b19), .val (.ref b22), .val (.ref r24), .val (.ref b25), .val (.ref b27), .unset] [(.ref r29)])) (fun t k => st29.trans k) ?_
    refine own_go (B := T29.setTop (mkF m 125 #[.val (.int p1), .val (.int p2), .val (.int p3), .val (.int p4), .val (.ref r1), .val (.int (0 : Int32)), .val (.ref b19), .val (.ref b22), .val (.ref r24), .val (.ref b25), .val (.ref b27), .val (.ref r29)] [(.ref r29)])) (fun t k => ?_) ?_
    · show Steps p.tables e below (T29.setTop (mkF m 116 #[.val (.int p1), .val (.int p2), .val (.int p3), .val (.int p4), .val (.ref r1), .val (.int (0 : Int32)), .val (.ref b19), .val (.ref b22), .val (.ref r24), .val (.ref b25), .val (.ref b27), .unset] [(.ref r29)])) _
      refine XS.astore X29.here hx rfl (hb hby at_116) rfl rfl (l' := #[.val (.int p1), .val (.int p2), .val (.int p3), .val (.int p4), .val (.ref r1), .val (.int (0 : Int32)), .val (.ref b19), .val (.ref b22), .val (.ref r24), .val (.ref b25), .val (.ref b27), .val (.ref r29)]) rfl ?_
      show Steps p.tables e below (T29.setTop (mkF m 118 #[.val (.int p1), .val (.int p2), .val (.int p3), .val (.int p4), .val (.ref r1), .val (.int (0 : Int32)), .val (.ref b19), .val (.ref b22), .val (.ref r24), .val (.ref b25), .val (.ref b27), .val (.ref r29)] [])) _
      refine XS.aload X29.here hx rfl (hb hby at_118) rfl rfl ?_
      show Steps p.tables e below (T29.setTop (mkF m 120 #[.val (.int p1), .val (.int p2), .val (.int p3), .val (.int p4), .val (.ref r1), .val (.int (0 : Int32)), .val (.ref b19), .val (.ref b22), .val (.ref r24), .val (.ref b25), .val (.ref b27), .val (.ref r29)] [(.ref r29)])) _
      refine XS.ifnullNo X29.here hx rfl (hb hby at_120) rfl ?_
      show Steps p.tables e below (T29.setTop (mkF m 123 #[.val (.int p1), .val (.int p2), .val (.int p3), .val (.int p4), .val (.ref r1), .val (.int (0 : Int32)), .val (.ref b19), .val (.ref b22), .val (.ref r24), .val (.ref b25), .val (.ref b27), .val (.ref r29)] [])) _
      refine XS.aload X29.here hx rfl (hb hby at_123) rfl rfl ?_
      show Steps p.tables e below (T29.setTop (mkF m 125 #[.val (.int p1), .val (.int p2), .val (.int p3), .val (.int p4), .val (.ref r1), .val (.int (0 : Int32)), .val (.ref b19), .val (.ref b22), .val (.ref r24), .val (.ref b25), .val (.ref b27), .val (.ref r29)] [(.ref r29)])) _
      exact k
    -- pc 125: com/example/nasute/nasute/sql/ColumnAccess$Every.table
    obtain ⟨cq30, kq30, q30a, q30b, q30c⟩ := isOf hZ rfl Gq29_0
    obtain ⟨_, _, ⟨T30, L30, k30, n30⟩, -, X30, ⟨Lc30, hQ30, l30, y30, z30⟩, st30⟩ := X29.virtualBack hx (y := (⟨"com/example/nasute/nasute/sql/ColumnAccess$Every", "table", "()Lcom/example/nasute/nasute/sql/ObjectName;"⟩ : MethodName)) (z := (⟨"com/example/nasute/nasute/sql/ColumnAccess$Every", "table", "()Lcom/example/nasute/nasute/sql/ObjectName;"⟩ : MethodName)) hown (mvT hZ (hw _ (List.mem_of_getElem? (i := 98) rfl))) (mvT hZ (hw _ (List.mem_of_getElem? (i := 99) rfl))) (notFace_of_selects (args := #[]) (mvT hZ (hw _ (List.mem_of_getElem? (i := 101) rfl)))) (mvT hZ (hw _ (List.mem_of_getElem? (i := 101) rfl))) (mvT hZ (hw _ (List.mem_of_getElem? (i := 100) rfl))) (by decide) (backOf (W := 0) (rmGt l Z a0 hw [] r29 b25 T29.heap n0 O Gq29_1) hZ (hw _ (List.mem_of_getElem? (i := 102) rfl)) (hw _ (List.mem_of_getElem? (i := 77) rfl)) (by decide) (by decide)) q30a q30c (g := (mkF m 125 #[.val (.int p1), .val (.int p2), .val (.int p3), .val (.int p4), .val (.ref r1), .val (.int (0 : Int32)), .val (.ref b19), .val (.ref b22), .val (.ref r24), .val (.ref b25), .val (.ref b27), .val (.ref r29)] [(.ref r29)])) rfl (by rw [hml]; rfl) (Steps.refl _) (argsL := []) (rest := []) (lenOf pd_10 rfl) rfl (by show 2 * 0 + _ ≤ _; exact Nat.le_of_eq rfl) (hb hby at_125) (fun _ hWm => ⟨rfl, rfl, (by decide : 18 + 0 ≤ _), (by decide : 169 + 0 ≤ _)⟩)
    dsimp only [Pt.U, Pt.locs, Pt.cells, Pt.slots] at X30 l30 y30 z30 st30 hQ30
    subst l30 y30 z30
    obtain ⟨rfl, Nq30, Kq30⟩ := hQ30
    replace N := Fr.app N Nq30
    refine own_go (B := T30.setTop (mkF m 128 #[.val (.int p1), .val (.int p2), .val (.int p3), .val (.int p4), .val (.ref r1), .val (.int (0 : Int32)), .val (.ref b19), .val (.ref b22), .val (.ref r24), .val (.ref b25), .val (.ref b27), .val (.ref r29)] [(.ref b25)])) (fun t k => st30.trans k) ?_
    refine own_go (B := T30.setTop (mkF m 135 #[.val (.int p1), .val (.int p2), .val (.int p3), .val (.int p4), .val (.ref r1), .val (.int (0 : Int32)), .val (.ref b19), .val (.ref b22), .val (.ref r24), .val (.ref b25), .val (.ref b27), .val (.ref r29)] [(.ref r29)])) (fun t k => ?_) ?_
    · show Steps p.tables e below (T30.setTop (mkF m 128 #[.val (.int p1), .val (.int p2), .val (.int p3), .val (.int p4), .val (.ref r1), .val (.int (0 : Int32)), .val (.ref b19), .val (.ref b22), .val (.ref r24), .val (.ref b25), .val (.ref b27), .val (.ref r29)] [(.ref b25)])) _
      refine XS.aload X30.here hx rfl (hb hby at_128) rfl rfl ?_
      show Steps p.tables e below (T30.setTop (mkF m 130 #[.val (.int p1), .val (.int p2), .val (.int p3), .val (.int p4), .val (.ref r1), .val (.int (0 : Int32)), .val (.ref b19), .val (.ref b22), .val (.ref r24), .val (.ref b25), .val (.ref b27), .val (.ref r29)] [(.ref b25), (.ref b25)])) _
      refine Jvm.RoadKit.acmp (g := (mkF m 130 #[.val (.int p1), .val (.int p2), .val (.int p3), .val (.int p4), .val (.ref r1), .val (.int (0 : Int32)), .val (.ref b19), .val (.ref b22), .val (.ref r24), .val (.ref b25), .val (.ref b27), .val (.ref r29)] [(.ref b25), (.ref b25)])) X30 hx rfl rfl rfl (pc0 := 130) (pc' := 133) (same := true) rfl (hb hby at_130) rfl (decide_eq_true (congrArg Value.ref rfl)) (by decide) (by decide) ?_
      show Steps p.tables e below (T30.setTop (mkF m 133 #[.val (.int p1), .val (.int p2), .val (.int p3), .val (.int p4), .val (.ref r1), .val (.int (0 : Int32)), .val (.ref b19), .val (.ref b22), .val (.ref r24), .val (.ref b25), .val (.ref b27), .val (.ref r29)] [])) _
      refine XS.aload X30.here hx rfl (hb hby at_133) rfl rfl ?_
      show Steps p.tables e below (T30.setTop (mkF m 135 #[.val (.int p1), .val (.int p2), .val (.int p3), .val (.int p4), .val (.ref r1), .val (.int (0 : Int32)), .val (.ref b19), .val (.ref b22), .val (.ref r24), .val (.ref b25), .val (.ref b27), .val (.ref r29)] [(.ref r29)])) _
      exact k
    -- pc 135: com/example/nasute/nasute/sql/ColumnAccess$Every.operation
    obtain ⟨cq31, kq31, q31a, q31b, q31c⟩ := isOf hZ Kq30 Gq29_0
    obtain ⟨_, _, ⟨T31, L31, k31, n31⟩, -, X31, ⟨Lc31, hQ31, l31, y31, z31⟩, st31⟩ := X30.virtualBack hx (y := (⟨"com/example/nasute/nasute/sql/ColumnAccess$Every", "operation", "()Lcom/example/nasute/nasute/sql/Operation;"⟩ : MethodName)) (z := (⟨"com/example/nasute/nasute/sql/ColumnAccess$Every", "operation", "()Lcom/example/nasute/nasute/sql/Operation;"⟩ : MethodName)) hown (mvT hZ (hw _ (List.mem_of_getElem? (i := 103) rfl))) (mvT hZ (hw _ (List.mem_of_getElem? (i := 104) rfl))) (notFace_of_selects (args := #[]) (mvT hZ (hw _ (List.mem_of_getElem? (i := 106) rfl)))) (mvT hZ (hw _ (List.mem_of_getElem? (i := 106) rfl))) (mvT hZ (hw _ (List.mem_of_getElem? (i := 105) rfl))) (by decide) (backOf (W := 0) (rmGo l Z a0 hw [] r29 r1 T29.heap n0 O Gq29_2) hZ (hw _ (List.mem_of_getElem? (i := 107) rfl)) (hw _ (List.mem_of_getElem? (i := 77) rfl)) (by decide) (by decide)) q31a q31c (g := (mkF m 135 #[.val (.int p1), .val (.int p2), .val (.int p3), .val (.int p4), .val (.ref r1), .val (.int (0 : Int32)), .val (.ref b19), .val (.ref b22), .val (.ref r24), .val (.ref b25), .val (.ref b27), .val (.ref r29)] [(.ref r29)])) rfl (by rw [hml]; rfl) (Steps.refl _) (argsL := []) (rest := []) (lenOf pd_11 rfl) rfl (by show 2 * 0 + _ ≤ _; exact Nat.le_of_eq rfl) (hb hby at_135) (fun _ hWm => ⟨rfl, Kq30, (by decide : 18 + 0 ≤ _), (by decide : 169 + 0 ≤ _)⟩)
    dsimp only [Pt.U, Pt.locs, Pt.cells, Pt.slots] at X31 l31 y31 z31 st31 hQ31
    subst l31 y31 z31
    obtain ⟨rfl, Nq31, Kq31⟩ := hQ31
    replace N := Fr.app N Nq31
    refine own_go (B := T31.setTop (mkF m 138 #[.val (.int p1), .val (.int p2), .val (.int p3), .val (.int p4), .val (.ref r1), .val (.int (0 : Int32)), .val (.ref b19), .val (.ref b22), .val (.ref r24), .val (.ref b25), .val (.ref b27), .val (.ref r29)] [(.ref r1)])) (fun t k => st31.trans k) ?_
    refine own_go (B := T31.setTop (mkF m 145 #[.val (.int p1), .val (.int p2), .val (.int p3), .val (.int p4), .val (.ref r1), .val (.int (0 : Int32)), .val (.ref b19), .val (.ref b22), .val (.ref r24), .val (.ref b25), .val (.ref b27), .val (.ref r29)] [(.ref r29)])) (fun t k => ?_) ?_
    · show Steps p.tables e below (T31.setTop (mkF m 138 #[.val (.int p1), .val (.int p2), .val (.int p3), .val (.int p4), .val (.ref r1), .val (.int (0 : Int32)), .val (.ref b19), .val (.ref b22), .val (.ref r24), .val (.ref b25), .val (.ref b27), .val (.ref r29)] [(.ref r1)])) _
      refine XS.aload X31.here hx rfl (hb hby at_138) rfl rfl ?_
      show Steps p.tables e below (T31.setTop (mkF m 140 #[.val (.int p1), .val (.int p2), .val (.int p3), .val (.int p4), .val (.ref r1), .val (.int (0 : Int32)), .val (.ref b19), .val (.ref b22), .val (.ref r24), .val (.ref b25), .val (.ref b27), .val (.ref r29)] [(.ref r1), (.ref r1)])) _
      refine Jvm.RoadKit.acmp (g := (mkF m 140 #[.val (.int p1), .val (.int p2), .val (.int p3), .val (.int p4), .val (.ref r1), .val (.int (0 : Int32)), .val (.ref b19), .val (.ref b22), .val (.ref r24), .val (.ref b25), .val (.ref b27), .val (.ref r29)] [(.ref r1), (.ref r1)])) X31 hx rfl rfl rfl (pc0 := 140) (pc' := 143) (same := true) rfl (hb hby at_140) rfl (decide_eq_true (congrArg Value.ref rfl)) (by decide) (by decide) ?_
      show Steps p.tables e below (T31.setTop (mkF m 143 #[.val (.int p1), .val (.int p2), .val (.int p3), .val (.int p4), .val (.ref r1), .val (.int (0 : Int32)), .val (.ref b19), .val (.ref b22), .val (.ref r24), .val (.ref b25), .val (.ref b27), .val (.ref r29)] [])) _
      refine XS.aload X31.here hx rfl (hb hby at_143) rfl rfl ?_
      show Steps p.tables e below (T31.setTop (mkF m 145 #[.val (.int p1), .val (.int p2), .val (.int p3), .val (.int p4), .val (.ref r1), .val (.int (0 : Int32)), .val (.ref b19), .val (.ref b22), .val (.ref r24), .val (.ref b25), .val (.ref b27), .val (.ref r29)] [(.ref r29)])) _
      exact k
    -- pc 145: com/example/nasute/nasute/sql/ColumnAccess$Every.position
    obtain ⟨cq32, kq32, q32a, q32b, q32c⟩ := isOf hZ Kq31 Gq29_0
    obtain ⟨_, _, ⟨T32, L32, k32, n32⟩, -, X32, ⟨Lc32, hQ32, l32, y32, z32⟩, st32⟩ := X31.virtualBack hx (y := (⟨"com/example/nasute/nasute/sql/ColumnAccess$Every", "position", "()I"⟩ : MethodName)) (z := (⟨"com/example/nasute/nasute/sql/ColumnAccess$Every", "position", "()I"⟩ : MethodName)) hown (mvT hZ (hw _ (List.mem_of_getElem? (i := 108) rfl))) (mvT hZ (hw _ (List.mem_of_getElem? (i := 109) rfl))) (notFace_of_selects (args := #[]) (mvT hZ (hw _ (List.mem_of_getElem? (i := 111) rfl)))) (mvT hZ (hw _ (List.mem_of_getElem? (i := 111) rfl))) (mvT hZ (hw _ (List.mem_of_getElem? (i := 110) rfl))) (by decide) (backOf (W := 0) (rmGp l Z a0 hw [] r29 p4 T29.heap n0 O Gq29_3) hZ (hw _ (List.mem_of_getElem? (i := 112) rfl)) (hw _ (List.mem_of_getElem? (i := 77) rfl)) (by decide) (by decide)) q32a q32c (g := (mkF m 145 #[.val (.int p1), .val (.int p2), .val (.int p3), .val (.int p4), .val (.ref r1), .val (.int (0 : Int32)), .val (.ref b19), .val (.ref b22), .val (.ref r24), .val (.ref b25), .val (.ref b27), .val (.ref r29)] [(.ref r29)])) rfl (by rw [hml]; rfl) (Steps.refl _) (argsL := []) (rest := []) (lenOf pd_12 rfl) rfl (by show 2 * 0 + _ ≤ _; exact Nat.le_of_eq rfl) (hb hby at_145) (fun _ hWm => ⟨rfl, Kq31, (by decide : 18 + 0 ≤ _), (by decide : 169 + 0 ≤ _)⟩)
    dsimp only [Pt.U, Pt.locs, Pt.cells, Pt.slots] at X32 l32 y32 z32 st32 hQ32
    subst l32 y32 z32
    obtain ⟨rfl, Nq32, Kq32⟩ := hQ32
    replace N := Fr.app N Nq32
    refine own_go (B := T32.setTop (mkF m 148 #[.val (.int p1), .val (.int p2), .val (.int p3), .val (.int p4), .val (.ref r1), .val (.int (0 : Int32)), .val (.ref b19), .val (.ref b22), .val (.ref r24), .val (.ref b25), .val (.ref b27), .val (.ref r29)] [(.int p4)])) (fun t k => st32.trans k) ?_
    refine own_go (B := T32.setTop (mkF m 154 #[.val (.int p1), .val (.int p2), .val (.int p3), .val (.int p4), .val (.ref r1), .val (.int (0 : Int32)), .val (.ref b19), .val (.ref b22), .val (.ref r24), .val (.ref b25), .val (.ref b27), .val (.ref r29)] [(.ref b27)])) (fun t k => ?_) ?_
    · show Steps p.tables e below (T32.setTop (mkF m 148 #[.val (.int p1), .val (.int p2), .val (.int p3), .val (.int p4), .val (.ref r1), .val (.int (0 : Int32)), .val (.ref b19), .val (.ref b22), .val (.ref r24), .val (.ref b25), .val (.ref b27), .val (.ref r29)] [(.int p4)])) _
      refine XS.iloadN X32.here hx rfl (hb hby at_148) rfl ?_
      show Steps p.tables e below (T32.setTop (mkF m 149 #[.val (.int p1), .val (.int p2), .val (.int p3), .val (.int p4), .val (.ref r1), .val (.int (0 : Int32)), .val (.ref b19), .val (.ref b22), .val (.ref r24), .val (.ref b25), .val (.ref b27), .val (.ref r29)] [(.int p4), (.int p4)])) _
      refine XS.icmpNo X32.here hx rfl (hb hby at_149) rfl (teq rfl).2 ?_
      show Steps p.tables e below (T32.setTop (mkF m 152 #[.val (.int p1), .val (.int p2), .val (.int p3), .val (.int p4), .val (.ref r1), .val (.int (0 : Int32)), .val (.ref b19), .val (.ref b22), .val (.ref r24), .val (.ref b25), .val (.ref b27), .val (.ref r29)] [])) _
      refine XS.aload X32.here hx rfl (hb hby at_152) rfl rfl ?_
      show Steps p.tables e below (T32.setTop (mkF m 154 #[.val (.int p1), .val (.int p2), .val (.int p3), .val (.int p4), .val (.ref r1), .val (.int (0 : Int32)), .val (.ref b19), .val (.ref b22), .val (.ref r24), .val (.ref b25), .val (.ref b27), .val (.ref r29)] [(.ref b27)])) _
      exact k
    -- pc 154: com/example/nasute/nasute/sql/ColumnAccess$Every.table
    obtain ⟨cq33, kq33, q33a, q33b, q33c⟩ := isOf hZ Kq32 A27
    obtain ⟨_, _, ⟨T33, L33, k33, n33⟩, -, X33, ⟨Lc33, hQ33, l33, y33, z33⟩, st33⟩ := X32.virtualBack hx (y := (⟨"com/example/nasute/nasute/sql/ColumnAccess$Every", "table", "()Lcom/example/nasute/nasute/sql/ObjectName;"⟩ : MethodName)) (z := (⟨"com/example/nasute/nasute/sql/ColumnAccess$Every", "table", "()Lcom/example/nasute/nasute/sql/ObjectName;"⟩ : MethodName)) hown (mvT hZ (hw _ (List.mem_of_getElem? (i := 98) rfl))) (mvT hZ (hw _ (List.mem_of_getElem? (i := 99) rfl))) (notFace_of_selects (args := #[]) (mvT hZ (hw _ (List.mem_of_getElem? (i := 101) rfl)))) (mvT hZ (hw _ (List.mem_of_getElem? (i := 101) rfl))) (mvT hZ (hw _ (List.mem_of_getElem? (i := 100) rfl))) (by decide) (backOf (W := 0) (rmGt l Z a0 hw [] b27 b25 T29.heap n0 O Gq28_0) hZ (hw _ (List.mem_of_getElem? (i := 102) rfl)) (hw _ (List.mem_of_getElem? (i := 77) rfl)) (by decide) (by decide)) q33a q33c (g := (mkF m 154 #[.val (.int p1), .val (.int p2), .val (.int p3), .val (.int p4), .val (.ref r1), .val (.int (0 : Int32)), .val (.ref b19), .val (.ref b22), .val (.ref r24), .val (.ref b25), .val (.ref b27), .val (.ref r29)] [(.ref b27)])) rfl (by rw [hml]; rfl) (Steps.refl _) (argsL := []) (rest := []) (lenOf pd_10 rfl) rfl (by show 2 * 0 + _ ≤ _; exact Nat.le_of_eq rfl) (hb hby at_154) (fun _ hWm => ⟨rfl, Kq32, (by decide : 18 + 0 ≤ _), (by decide : 169 + 0 ≤ _)⟩)
    dsimp only [Pt.U, Pt.locs, Pt.cells, Pt.slots] at X33 l33 y33 z33 st33 hQ33
    subst l33 y33 z33
    obtain ⟨rfl, Nq33, Kq33⟩ := hQ33
    replace N := Fr.app N Nq33
    refine own_go (B := T33.setTop (mkF m 157 #[.val (.int p1), .val (.int p2), .val (.int p3), .val (.int p4), .val (.ref r1), .val (.int (0 : Int32)), .val (.ref b19), .val (.ref b22), .val (.ref r24), .val (.ref b25), .val (.ref b27), .val (.ref r29)] [(.ref b25)])) (fun t k => st33.trans k) ?_
    refine own_go (B := T33.setTop (mkF m 164 #[.val (.int p1), .val (.int p2), .val (.int p3), .val (.int p4), .val (.ref r1), .val (.int (0 : Int32)), .val (.ref b19), .val (.ref b22), .val (.ref r24), .val (.ref b25), .val (.ref b27), .val (.ref r29)] [(.ref b27)])) (fun t k => ?_) ?_
    · show Steps p.tables e below (T33.setTop (mkF m 157 #[.val (.int p1), .val (.int p2), .val (.int p3), .val (.int p4), .val (.ref r1), .val (.int (0 : Int32)), .val (.ref b19), .val (.ref b22), .val (.ref r24), .val (.ref b25), .val (.ref b27), .val (.ref r29)] [(.ref b25)])) _
      refine XS.aload X33.here hx rfl (hb hby at_157) rfl rfl ?_
      show Steps p.tables e below (T33.setTop (mkF m 159 #[.val (.int p1), .val (.int p2), .val (.int p3), .val (.int p4), .val (.ref r1), .val (.int (0 : Int32)), .val (.ref b19), .val (.ref b22), .val (.ref r24), .val (.ref b25), .val (.ref b27), .val (.ref r29)] [(.ref b25), (.ref b25)])) _
      refine Jvm.RoadKit.acmp (g := (mkF m 159 #[.val (.int p1), .val (.int p2), .val (.int p3), .val (.int p4), .val (.ref r1), .val (.int (0 : Int32)), .val (.ref b19), .val (.ref b22), .val (.ref r24), .val (.ref b25), .val (.ref b27), .val (.ref r29)] [(.ref b25), (.ref b25)])) X33 hx rfl rfl rfl (pc0 := 159) (pc' := 162) (same := true) rfl (hb hby at_159) rfl (decide_eq_true (congrArg Value.ref rfl)) (by decide) (by decide) ?_
      show Steps p.tables e below (T33.setTop (mkF m 162 #[.val (.int p1), .val (.int p2), .val (.int p3), .val (.int p4), .val (.ref r1), .val (.int (0 : Int32)), .val (.ref b19), .val (.ref b22), .val (.ref r24), .val (.ref b25), .val (.ref b27), .val (.ref r29)] [])) _
      refine XS.aload X33.here hx rfl (hb hby at_162) rfl rfl ?_
      show Steps p.tables e below (T33.setTop (mkF m 164 #[.val (.int p1), .val (.int p2), .val (.int p3), .val (.int p4), .val (.ref r1), .val (.int (0 : Int32)), .val (.ref b19), .val (.ref b22), .val (.ref r24), .val (.ref b25), .val (.ref b27), .val (.ref r29)] [(.ref b27)])) _
      exact k
    -- pc 164: com/example/nasute/nasute/sql/ColumnAccess$Every.operation
    obtain ⟨cq34, kq34, q34a, q34b, q34c⟩ := isOf hZ Kq33 A27
    obtain ⟨_, _, ⟨T34, L34, k34, n34⟩, -, X34, ⟨Lc34, hQ34, l34, y34, z34⟩, st34⟩ := X33.virtualBack hx (y := (⟨"com/example/nasute/nasute/sql/ColumnAccess$Every", "operation", "()Lcom/example/nasute/nasute/sql/Operation;"⟩ : MethodName)) (z := (⟨"com/example/nasute/nasute/sql/ColumnAccess$Every", "operation", "()Lcom/example/nasute/nasute/sql/Operation;"⟩ : MethodName)) hown (mvT hZ (hw _ (List.mem_of_getElem? (i := 103) rfl))) (mvT hZ (hw _ (List.mem_of_getElem? (i := 104) rfl))) (notFace_of_selects (args := #[]) (mvT hZ (hw _ (List.mem_of_getElem? (i := 106) rfl)))) (mvT hZ (hw _ (List.mem_of_getElem? (i := 106) rfl))) (mvT hZ (hw _ (List.mem_of_getElem? (i := 105) rfl))) (by decide) (backOf (W := 0) (rmGo l Z a0 hw [] b27 r1 T29.heap n0 O Gq28_1) hZ (hw _ (List.mem_of_getElem? (i := 107) rfl)) (hw _ (List.mem_of_getElem? (i := 77) rfl)) (by decide) (by decide)) q34a q34c (g := (mkF m 164 #[.val (.int p1), .val (.int p2), .val (.int p3), .val (.int p4), .val (.ref r1), .val (.int (0 : Int32)), .val (.ref b19), .val (.ref b22), .val (.ref r24), .val (.ref b25), .val (.ref b27), .val (.ref r29)] [(.ref b27)])) rfl (by rw [hml]; rfl) (Steps.refl _) (argsL := []) (rest := []) (lenOf pd_11 rfl) rfl (by show 2 * 0 + _ ≤ _; exact Nat.le_of_eq rfl) (hb hby at_164) (fun _ hWm => ⟨rfl, Kq33, (by decide : 18 + 0 ≤ _), (by decide : 169 + 0 ≤ _)⟩)
    dsimp only [Pt.U, Pt.locs, Pt.cells, Pt.slots] at X34 l34 y34 z34 st34 hQ34
    subst l34 y34 z34
    obtain ⟨rfl, Nq34, Kq34⟩ := hQ34
    replace N := Fr.app N Nq34
    refine own_go (B := T34.setTop (mkF m 167 #[.val (.int p1), .val (.int p2), .val (.int p3), .val (.int p4), .val (.ref r1), .val (.int (0 : Int32)), .val (.ref b19), .val (.ref b22), .val (.ref r24), .val (.ref b25), .val (.ref b27), .val (.ref r29)] [(.ref r1)])) (fun t k => st34.trans k) ?_
    refine own_go (B := T34.setTop (mkF m 174 #[.val (.int p1), .val (.int p2), .val (.int p3), .val (.int p4), .val (.ref r1), .val (.int (0 : Int32)), .val (.ref b19), .val (.ref b22), .val (.ref r24), .val (.ref b25), .val (.ref b27), .val (.ref r29)] [(.ref b27)])) (fun t k => ?_) ?_
    · show Steps p.tables e below (T34.setTop (mkF m 167 #[.val (.int p1), .val (.int p2), .val (.int p3), .val (.int p4), .val (.ref r1), .val (.int (0 : Int32)), .val (.ref b19), .val (.ref b22), .val (.ref r24), .val (.ref b25), .val (.ref b27), .val (.ref r29)] [(.ref r1)])) _
      refine XS.aload X34.here hx rfl (hb hby at_167) rfl rfl ?_
      show Steps p.tables e below (T34.setTop (mkF m 169 #[.val (.int p1), .val (.int p2), .val (.int p3), .val (.int p4), .val (.ref r1), .val (.int (0 : Int32)), .val (.ref b19), .val (.ref b22), .val (.ref r24), .val (.ref b25), .val (.ref b27), .val (.ref r29)] [(.ref r1), (.ref r1)])) _
      refine Jvm.RoadKit.acmp (g := (mkF m 169 #[.val (.int p1), .val (.int p2), .val (.int p3), .val (.int p4), .val (.ref r1), .val (.int (0 : Int32)), .val (.ref b19), .val (.ref b22), .val (.ref r24), .val (.ref b25), .val (.ref b27), .val (.ref r29)] [(.ref r1), (.ref r1)])) X34 hx rfl rfl rfl (pc0 := 169) (pc' := 172) (same := true) rfl (hb hby at_169) rfl (decide_eq_true (congrArg Value.ref rfl)) (by decide) (by decide) ?_
      show Steps p.tables e below (T34.setTop (mkF m 172 #[.val (.int p1), .val (.int p2), .val (.int p3), .val (.int p4), .val (.ref r1), .val (.int (0 : Int32)), .val (.ref b19), .val (.ref b22), .val (.ref r24), .val (.ref b25), .val (.ref b27), .val (.ref r29)] [])) _
      refine XS.aload X34.here hx rfl (hb hby at_172) rfl rfl ?_
      show Steps p.tables e below (T34.setTop (mkF m 174 #[.val (.int p1), .val (.int p2), .val (.int p3), .val (.int p4), .val (.ref r1), .val (.int (0 : Int32)), .val (.ref b19), .val (.ref b22), .val (.ref r24), .val (.ref b25), .val (.ref b27), .val (.ref r29)] [(.ref b27)])) _
      exact k
    -- pc 174: com/example/nasute/nasute/sql/ColumnAccess$Every.position
    obtain ⟨cq35, kq35, q35a, q35b, q35c⟩ := isOf hZ Kq34 A27
    obtain ⟨_, _, ⟨T35, L35, k35, n35⟩, -, X35, ⟨Lc35, hQ35, l35, y35, z35⟩, st35⟩ := X34.virtualBack hx (y := (⟨"com/example/nasute/nasute/sql/ColumnAccess$Every", "position", "()I"⟩ : MethodName)) (z := (⟨"com/example/nasute/nasute/sql/ColumnAccess$Every", "position", "()I"⟩ : MethodName)) hown (mvT hZ (hw _ (List.mem_of_getElem? (i := 108) rfl))) (mvT hZ (hw _ (List.mem_of_getElem? (i := 109) rfl))) (notFace_of_selects (args := #[]) (mvT hZ (hw _ (List.mem_of_getElem? (i := 111) rfl)))) (mvT hZ (hw _ (List.mem_of_getElem? (i := 111) rfl))) (mvT hZ (hw _ (List.mem_of_getElem? (i := 110) rfl))) (by decide) (backOf (W := 0) (rmGp l Z a0 hw [] b27 p3 T29.heap n0 O Gq28_2) hZ (hw _ (List.mem_of_getElem? (i := 112) rfl)) (hw _ (List.mem_of_getElem? (i := 77) rfl)) (by decide) (by decide)) q35a q35c (g := (mkF m 174 #[.val (.int p1), .val (.int p2), .val (.int p3), .val (.int p4), .val (.ref r1), .val (.int (0 : Int32)), .val (.ref b19), .val (.ref b22), .val (.ref r24), .val (.ref b25), .val (.ref b27), .val (.ref r29)] [(.ref b27)])) rfl (by rw [hml]; rfl) (Steps.refl _) (argsL := []) (rest := []) (lenOf pd_12 rfl) rfl (by show 2 * 0 + _ ≤ _; exact Nat.le_of_eq rfl) (hb hby at_174) (fun _ hWm => ⟨rfl, Kq34, (by decide : 18 + 0 ≤ _), (by decide : 169 + 0 ≤ _)⟩)
    dsimp only [Pt.U, Pt.locs, Pt.cells, Pt.slots] at X35 l35 y35 z35 st35 hQ35
    subst l35 y35 z35
    obtain ⟨rfl, Nq35, Kq35⟩ := hQ35
    replace N := Fr.app N Nq35
    refine own_go (B := T35.setTop (mkF m 177 #[.val (.int p1), .val (.int p2), .val (.int p3), .val (.int p4), .val (.ref r1), .val (.int (0 : Int32)), .val (.ref b19), .val (.ref b22), .val (.ref r24), .val (.ref b25), .val (.ref b27), .val (.ref r29)] [(.int p3)])) (fun t k => st35.trans k) ?_
    refine own_go (B := T35.setTop (mkF m 186 #[.val (.int p1), .val (.int p2), .val (.int p3), .val (.int p4), .val (.ref r1), .val (.int (0 : Int32)), .val (.ref b19), .val (.ref b22), .val (.ref r24), .val (.ref b25), .val (.ref b27), .val (.ref r29)] [(.int (1 : Int32))])) (fun t k => ?_) ?_
    · show Steps p.tables e below (T35.setTop (mkF m 177 #[.val (.int p1), .val (.int p2), .val (.int p3), .val (.int p4), .val (.ref r1), .val (.int (0 : Int32)), .val (.ref b19), .val (.ref b22), .val (.ref r24), .val (.ref b25), .val (.ref b27), .val (.ref r29)] [(.int p3)])) _
      refine XS.iloadN X35.here hx rfl (hb hby at_177) rfl ?_
      show Steps p.tables e below (T35.setTop (mkF m 178 #[.val (.int p1), .val (.int p2), .val (.int p3), .val (.int p4), .val (.ref r1), .val (.int (0 : Int32)), .val (.ref b19), .val (.ref b22), .val (.ref r24), .val (.ref b25), .val (.ref b27), .val (.ref r29)] [(.int p3), (.int p3)])) _
      refine XS.icmpNo X35.here hx rfl (hb hby at_178) rfl (teq rfl).2 ?_
      show Steps p.tables e below (T35.setTop (mkF m 181 #[.val (.int p1), .val (.int p2), .val (.int p3), .val (.int p4), .val (.ref r1), .val (.int (0 : Int32)), .val (.ref b19), .val (.ref b22), .val (.ref r24), .val (.ref b25), .val (.ref b27), .val (.ref r29)] [])) _
      refine XS.iconst X35.here hx rfl (hb hby at_181) ?_
      show Steps p.tables e below (T35.setTop (mkF m 182 #[.val (.int p1), .val (.int p2), .val (.int p3), .val (.int p4), .val (.ref r1), .val (.int (0 : Int32)), .val (.ref b19), .val (.ref b22), .val (.ref r24), .val (.ref b25), .val (.ref b27), .val (.ref r29)] [(.int (1 : Int32))])) _
      refine XS.goto X35.here hx rfl (pc0 := 182) (pc' := 186) rfl (hb hby at_182) (by decide) (by decide) ?_
      show Steps p.tables e below (T35.setTop (mkF m 186 #[.val (.int p1), .val (.int p2), .val (.int p3), .val (.int p4), .val (.ref r1), .val (.int (0 : Int32)), .val (.ref b19), .val (.ref b22), .val (.ref r24), .val (.ref b25), .val (.ref b27), .val (.ref r29)] [(.int (1 : Int32))])) _
      exact k
    obtain ⟨fs, hr, hrun, hended, hEnd⟩ := X35.leaveW hS (by rw [Kq35]; exact hk) (v := some (.int (1 : Int32))) (fun h => by rw [Bd.returns] at h; cases h)
    refine ⟨_, _, retN X35 hx (t := .boolean) Bd.returns (by simp) (hb hby at_186) hr, hfin _ _ ⟨hrun, hended, _, _, rfl, ?_, hEnd.1, hEnd.2.1, hEnd.2.2.1, hEnd.2.2.2.mono (by decide) (by decide)⟩⟩
    show Q0 Z p1 p2 p3 p4 w0 w1 w2 w3 w4 w5 w6 zc h0 n0 _ T35.heap _
    rw [Kq35]
    exact ⟨rfl, N⟩
set_option maxRecDepth 65536 in
set_option maxHeartbeats 40000000 in
theorem comes_1 {Post : Tables → Env → Array Value → State → Outcome → State → Prop} (hpost : ∀ tb e args s v u, (limb_1_1.after args s (.returned v) u = true ∧ limb_1_2.after args s (.returned v) u = true ∧ True) → ReturnedEndW s (.returned v) u (Jvm.fieldLocs frame_1_writes args s ++ Jvm.arrayLocs frame_1_arrays args s ++ Jvm.staticLocs frame_1_statics s) 32 3200 → Post tb e args s (.returned v) u) :
    ArmFor flags0 classFile x code maxLocals ret World_1 tables_1 room_1 Calls_1 rest_1 Pre_1 Post := by
  intro l hfl _ _ p e ha hc hk s m args below hf hA hF happ hP
  obtain ⟨hcalls, hrest, hpre⟩ := hP
  obtain ⟨-, -, -, hnamed, -, -, -, hat⟩ := (Spec.applies_iff hf).mp happ
  obtain ⟨hg, hn⟩ := and_e (Cond.before_iff.mp (show (Jvm.Cond.and given_1 narrow_1).before args s = true from hpre))
  obtain ⟨gc, gr0⟩ := and_e hg
  obtain ⟨gi0, gr1⟩ := and_e gr0
  obtain ⟨gi1, gr2⟩ := and_e gr1
  obtain ⟨gi2, gr3⟩ := and_e gr2
  have gi3 := gr3
  obtain ⟨w0, w1, w2, w3, rfl⟩ : ∃ w0 w1 w2 w3 : Value, args = #[w0, w1, w2, w3] := by
    have hs : args.size = 4 := by simpa [Cond.value, given_1] using gc
    obtain ⟨L⟩ := args
    match L, hs with
    | [w0, w1, w2, w3], _ => exact ⟨w0, w1, w2, w3, rfl⟩
  have hw := fun d (hd : d ∈ tables_1) => atoms_spec (ws := Jvm.Cond.code x code maxLocals ret :: tables_1) hat d (List.mem_cons_of_mem _ hd)
  have hfit : Fit s := fun {y c} hc i hi => by
    obtain ⟨ha, rfl⟩ := Array.getElem?_eq_some_iff.mp hc
    have q := List.all_eq_true.mp ((Array.all_eq_true_iff_forall_mem.mp hF) _ (Array.getElem_mem ha)) i (List.mem_range.mpr hi)
    simpa [Array.getElem?_eq_getElem hi] using q
  obtain ⟨i0, ei0⟩ := is_v gi0
  obtain rfl : w0 = (.int i0) := Option.some.inj ei0
  obtain ⟨i1, ei1⟩ := is_v gi1
  obtain rfl : w1 = (.int i1) := Option.some.inj ei1
  obtain ⟨i2, ei2⟩ := is_v gi2
  obtain rfl : w2 = (.int i2) := Option.some.inj ei2
  obtain ⟨i3, ei3⟩ := is_v gi3
  obtain rfl : w3 = (.int i3) := Option.some.inj ei3
  obtain ⟨hsets, hown0⟩ := atoms_of _ (rest_1_c_eq ▸ (show rest_1_c.before _ s = true from hrest))
  obtain ⟨nn1, nn2⟩ := and_e hn
  obtain ⟨nn3, nn4⟩ := and_e nn2
  obtain ⟨nn5, nn6⟩ := and_e nn4
  obtain ⟨nn7, nn8⟩ := and_e nn6
  obtain ⟨nn9, nn10⟩ := and_e nn8
  obtain ⟨nn11, nn12⟩ := and_e nn10
  obtain ⟨w0, ev0⟩ := exa_v nn1
  have S_0 := Sta.start ev0 (Or.inr ⟨(hw _ (List.mem_of_getElem? (i := 6) rfl)), (hw _ (List.mem_of_getElem? (i := 7) rfl))⟩)
  have E_0 := Exa.start ev0 nn1
  obtain ⟨w5, ev5⟩ := exa_v nn3
  have S_5 := Sta.start ev5 (Or.inr ⟨(hw _ (List.mem_of_getElem? (i := 6) rfl)), (hw _ (List.mem_of_getElem? (i := 114) rfl))⟩)
  have E_5 := Exa.start ev5 nn3
  obtain ⟨w2, ev2⟩ := exa_v nn5
  have S_2 := Sta.start ev2 (Or.inr ⟨(hw _ (List.mem_of_getElem? (i := 6) rfl)), (hw _ (List.mem_of_getElem? (i := 116) rfl))⟩)
  have E_2 := Exa.start ev2 nn5
  obtain ⟨w1, ev1⟩ := exa_v nn7
  have S_1 := Sta.start ev1 (Or.inr ⟨(hw _ (List.mem_of_getElem? (i := 6) rfl)), (hw _ (List.mem_of_getElem? (i := 118) rfl))⟩)
  have E_1 := Exa.start ev1 nn7
  obtain ⟨w3, ev3⟩ := exa_v nn9
  have S_3 := Sta.start ev3 (Or.inr ⟨(hw _ (List.mem_of_getElem? (i := 6) rfl)), (hw _ (List.mem_of_getElem? (i := 120) rfl))⟩)
  have E_3 := Exa.start ev3 nn9
  obtain ⟨w4, ev4⟩ := exa_v nn11
  have S_4 := Sta.start ev4 (Or.inr ⟨(hw _ (List.mem_of_getElem? (i := 6) rfl)), (hw _ (List.mem_of_getElem? (i := 122) rfl))⟩)
  have E_4 := Exa.start ev4 nn11
  obtain ⟨w6, ev6⟩ := exa_v nn12
  have S_6 := Sta.start ev6 (Or.inr ⟨(hw _ (List.mem_of_getElem? (i := 6) rfl)), (hw _ (List.mem_of_getElem? (i := 124) rfl))⟩)
  have E_6 := Exa.start ev6 nn12
  obtain ⟨zc, ezc⟩ := is_v (Cond.before_iff.mp (hsets _ (List.mem_of_getElem? (i := 1) rfl)))
  have S_C := Sta.start ezc (Or.inl (hsets _ (List.mem_of_getElem? (i := 0) rfl)))
  have hcs : ¬ zc = (0 : Int32) := by
    have q := not_v (Cond.before_iff.mp (hsets _ (List.mem_of_getElem? (i := 2) rfl)))
    have r := gotF (Jvm.Cond.eq_ints ezc (Term.int_eval 0)) q
    exact r
  obtain ⟨n, o, h1, h2, h3, _, L, rfl, ⟨rfl, N⟩, hq⟩ := rm0 l s _ hw tables_1 i0 i1 i2 i3 w0 w1 w2 w3 w4 w5 w6 zc s.heap s.heap.size (Old.start s) S_0 S_1 S_2 S_3 S_4 S_5 S_6 S_C hcs p e ha hc hk s m _ below hf ((Spec.applies_iff_loose hf).mp happ).1 ⟨rfl, State.Warmed39.refl s, rfl⟩ trivial
  refine ⟨n, _, h1, h2, h3, hpost _ _ _ _ _ _ ⟨Cond.after_iff.mpr rfl, Cond.after_iff.mpr (eq_i res_at (Term.int_eval (1)) rfl), trivial⟩ ⟨hq.1, hq.2.1, hq.2.2.1, (hq.2.2.2.sift fun y hy => Or.inr (N y hy)).mono (by decide) (by decide)⟩⟩
theorem main_1_1 : Claimed_1_1 := comes_1 fun _ _ _ _ _ _ h hF => ⟨h.1, hF⟩
theorem main_1_2 : Claimed_1_2 := comes_1 fun _ _ _ _ _ _ h hF => ⟨h.2.1, hF⟩
end Jvm.Pilot.@@N@@
namespace Jvm.Pilot.@@N@@
open Jvm Jvm.ClassFile Sem Op Lib Jvm.Free Jvm.Stand Jvm.Pilot.@@N@@.Jvm.D
/-! MADE BY PROGRAM (witnessworld.py) out of the Statement's table words and the real class files: 26 classes; the members and pool entries that the words name. The judged class is class 1, her method 2. -/
namespace start1
open Jvm.ClassFile
def u (s : String) : CpInfo := .utf8 (stringToUtf16 s)
/-- a pool by its gaps: so many unusable entries, then the entry; so many at the end -/
def gap : Nat → List CpInfo → List CpInfo
  | 0, r => r
  | n + 1, r => .unusable :: gap n r
def poolList (es : List (Nat × CpInfo)) (last : Nat) : List CpInfo := es.foldr (fun e r => gap e.1 (e.2 :: r)) (gap last [])
def pool (es : List (Nat × CpInfo)) (last : Nat) : Array CpInfo := ⟨poolList es last⟩
def fileOf (pool : Array CpInfo) (this : Nat) (attrs : Array Attribute := #[]) (ms : Array MethodInfo := #[]) (fl : Nat := 33) (sup : Nat := 0) (ifs : Array Nat := #[]) (fds : Array FieldInfo := #[]) : ClassFile where
  minorVersion := 0
  majorVersion := 65
  constantPool := pool
  accessFlags := fl
  thisClass := this
  superClass := sup
  interfaces := ifs
  fields := fds
  methods := ms
  attributes := attrs
def plain (name : String) (sup : Option ClassId) : Class where
  name := name
  kind := .ordinary
  loader := none
  accessFlags := 33
  super := sup
  interfaces := #[]
  cf := none
  fields := #[]
  methods := #[]
  instanceTypes := #[]
  staticTypes := #[]
  resolved := #[]
  callSites := []
  init := .initialized
  statics := none
  mirror := none

def pool0 : Array CpInfo := pool [(5, u "<init>"), (0, u "()V"), (1, .class_ 10), (1, u "java/lang/Object")] 113

def k0c0 : Code := { maxStack := 0, maxLocals := 1, code := object_method_1_code, exceptionTable := #[], attributes := #[] }
def k0m0 : Method := { name := "<init>", desc := "()V", sig := { parameters := [], returnType := none }, accessFlags := 1, code := some k0c0 }
/-- java/lang/Object -/
def k0 : Class := { plain "java/lang/Object" none with
  accessFlags := 33
  interfaces := #[]
  cf := some (fileOf pool0 8 #[] #[{ accessFlags := 1, nameIndex := 5, descriptorIndex := 6, attributes := #[] }] 33 0 #[] #[])
  fields := #[]
  methods := #[k0m0]
  instanceTypes := #[]
  staticTypes := #[]
  resolved := Array.replicate 124 none
  statics := none }

def pool1 : Array CpInfo := pool [(2, .class_ 4), (1, u "java/lang/Object"), (0, u "<init>"), (0, u "()V"), (0, .fieldref 8 9), (0, .class_ 10), (0, .nameAndType 11 12), (0, u "com/example/nasute/nasute/sql/Operation"), (0, u "SELECT"), (0, u "Lcom/example/nasute/nasute/sql/Operation;"), (0, .fieldref 8 14), (0, .nameAndType 15 12), (0, u "INSERT"), (0, .fieldref 8 17), (0, .nameAndType 18 12), (0, u "UPDATE"), (0, .fieldref 8 20), (0, .nameAndType 21 12), (0, u "DELETE"), (0, .fieldref 8 23), (0, .nameAndType 24 12), (0, u "CREATE"), (0, .fieldref 8 26), (0, .nameAndType 27 12), (0, u "DROP"), (0, .fieldref 8 29), (0, .nameAndType 30 12), (0, u "ALTER"), (0, .integer 2147483647), (0, .methodref 33 34), (0, .class_ 35), (0, .nameAndType 36 37), (0, u "com/example/nasute/nasute/sql/EveryAtPinLaw"), (0, u "op"), (0, u "(I)Lcom/example/nasute/nasute/sql/Operation;"), (0, .class_ 39), (0, u "java/lang/String"), (0, .methodref 38 41), (0, .nameAndType 5 42), (0, u "([C)V"), (0, .methodref 38 44), (0, .nameAndType 45 46), (0, u "valueOf"), (0, u "(C)Ljava/lang/String;"), (0, .class_ 48), (0, u "com/example/nasute/nasute/sql/ObjectName"), (0, .methodref 47 50), (0, .nameAndType 5 51), (0, u "(Ljava/lang/String;Ljava/lang/String;)V"), (0, .class_ 53), (0, u "com/example/nasute/nasute/sql/ColumnAccess$Every"), (0, .methodref 52 55), (0, .nameAndType 5 56), (0, u "(Lcom/example/nasute/nasute/sql/ObjectName;Lcom/example/nasute/nasute/sql/Operation;I)V"), (0, .methodref 52 58), (0, .nameAndType 59 60), (0, u "at"), (0, u "(I)Lcom/example/nasute/nasute/sql/ColumnAccess$Every;"), (0, .methodref 52 62), (0, .nameAndType 63 64), (0, u "table"), (0, u "()Lcom/example/nasute/nasute/sql/ObjectName;"), (0, .methodref 52 66), (0, .nameAndType 67 68), (0, u "operation"), (0, u "()Lcom/example/nasute/nasute/sql/Operation;"), (0, .methodref 52 70), (0, .nameAndType 71 72), (0, u "position"), (0, u "()I"), (3, u "law"), (0, u "(IIII)Z")] 8

def k1m0 : Method := { name := "<init>", desc := "()V", sig := { parameters := [], returnType := none }, accessFlags := 1, code := none }
def k1c1 : Code := { maxStack := 2, maxLocals := 1, code := method_2_code, exceptionTable := #[], attributes := #[] }
def k1m1 : Method := { name := "op", desc := "(I)Lcom/example/nasute/nasute/sql/Operation;", sig := { parameters := [.int], returnType := some (.object "com/example/nasute/nasute/sql/Operation") }, accessFlags := 10, code := some k1c1 }
def k1c2 : Code := { maxStack := 5, maxLocals := 12, code := code, exceptionTable := #[], attributes := #[] }
def k1m2 : Method := { name := "law", desc := "(IIII)Z", sig := { parameters := [.int, .int, .int, .int], returnType := some .boolean }, accessFlags := 9, code := some k1c2 }
/-- com/example/nasute/nasute/sql/EveryAtPinLaw -/
def k1 : Class := { plain "com/example/nasute/nasute/sql/EveryAtPinLaw" (some 0) with
  accessFlags := 49
  interfaces := #[]
  cf := some (fileOf pool1 33 #[] #[{ accessFlags := 1, nameIndex := 5, descriptorIndex := 6, attributes := #[] }, { accessFlags := 10, nameIndex := 36, descriptorIndex := 37, attributes := #[] }, { accessFlags := 9, nameIndex := 76, descriptorIndex := 77, attributes := #[] }] 49 2 #[] #[])
  fields := #[]
  methods := #[k1m0, k1m1, k1m2]
  instanceTypes := #[]
  staticTypes := #[]
  resolved := Array.replicate 86 none
  statics := none }

def pool2 : Array CpInfo := pool [(1, .class_ 2), (0, u "java/lang/constant/Constable"), (0, .class_ 4), (0, u "java/lang/Object")] 6

/-- java/lang/constant/Constable -/
def k2 : Class := { plain "java/lang/constant/Constable" (some 0) with
  accessFlags := 1537
  interfaces := #[]
  cf := some (fileOf pool2 1 #[] #[] 1537 3 #[] #[])
  fields := #[]
  methods := #[]
  instanceTypes := #[]
  staticTypes := #[]
  resolved := Array.replicate 11 none
  statics := none }

def pool3 : Array CpInfo := pool [(1, .class_ 2), (0, u "java/lang/Comparable"), (0, .class_ 4), (0, u "java/lang/Object")] 7

/-- java/lang/Comparable -/
def k3 : Class := { plain "java/lang/Comparable" (some 0) with
  accessFlags := 1537
  interfaces := #[]
  cf := some (fileOf pool3 1 #[] #[] 1537 3 #[] #[])
  fields := #[]
  methods := #[]
  instanceTypes := #[]
  staticTypes := #[]
  resolved := Array.replicate 12 none
  statics := none }

def pool4 : Array CpInfo := pool [(1, .class_ 2), (0, u "java/io/Serializable"), (0, .class_ 4), (0, u "java/lang/Object")] 2

/-- java/io/Serializable -/
def k4 : Class := { plain "java/io/Serializable" (some 0) with
  accessFlags := 1537
  interfaces := #[]
  cf := some (fileOf pool4 1 #[] #[] 1537 3 #[] #[])
  fields := #[]
  methods := #[]
  instanceTypes := #[]
  staticTypes := #[]
  resolved := Array.replicate 7 none
  statics := none }

def pool5 : Array CpInfo := pool [(2, .class_ 4), (1, u "java/lang/Enum"), (0, u "name"), (0, u "Ljava/lang/String;"), (2, u "ordinal"), (0, u "I"), (1, .class_ 14), (1, u "java/lang/Object"), (4, u "hash"), (86, .class_ 108), (1, u "java/lang/Enum$EnumDesc"), (2, .class_ 112), (0, u "java/lang/constant/Constable"), (0, .class_ 114), (0, u "java/lang/Comparable"), (0, .class_ 116), (0, u "java/io/Serializable")] 87

/-- java/lang/Enum -/
def k5 : Class := { plain "java/lang/Enum" (some 0) with
  accessFlags := 1057
  interfaces := #[2, 3, 4]
  cf := some (fileOf pool5 2 #[.nestMembers #[106]] #[] 1057 12 #[111, 113, 115] #[{ accessFlags := 18, nameIndex := 5, descriptorIndex := 6, attributes := #[] }, { accessFlags := 18, nameIndex := 9, descriptorIndex := 10, attributes := #[] }, { accessFlags := 2, nameIndex := 19, descriptorIndex := 10, attributes := #[] }])
  fields := #[{ name := "name", type := (.object "java/lang/String"), accessFlags := 18, slot := 0, constantValue := 0 }, { name := "ordinal", type := .int, accessFlags := 18, slot := 1, constantValue := 0 }, { name := "hash", type := .int, accessFlags := 2, slot := 2, constantValue := 0 }]
  methods := #[]
  instanceTypes := #[(.object "java/lang/String"), .int, .int]
  staticTypes := #[]
  resolved := Array.replicate 204 none
  statics := none }

def pool6 : Array CpInfo := pool [(1, .class_ 2), (0, u "com/example/nasute/nasute/sql/Operation"), (2, u "SELECT"), (0, u "Lcom/example/nasute/nasute/sql/Operation;"), (2, u "INSERT"), (2, u "UPDATE"), (2, u "DELETE"), (2, u "CREATE"), (2, u "DROP"), (2, u "ALTER"), (2, u "$VALUES"), (0, u "[Lcom/example/nasute/nasute/sql/Operation;"), (6, .class_ 37), (1, u "java/lang/Enum")] 29

/-- com/example/nasute/nasute/sql/Operation -/
def k6 : Class := { plain "com/example/nasute/nasute/sql/Operation" (some 5) with
  accessFlags := 16433
  interfaces := #[]
  cf := some (fileOf pool6 1 #[] #[] 16433 35 #[] #[{ accessFlags := 16409, nameIndex := 5, descriptorIndex := 6, attributes := #[] }, { accessFlags := 16409, nameIndex := 9, descriptorIndex := 6, attributes := #[] }, { accessFlags := 16409, nameIndex := 12, descriptorIndex := 6, attributes := #[] }, { accessFlags := 16409, nameIndex := 15, descriptorIndex := 6, attributes := #[] }, { accessFlags := 16409, nameIndex := 18, descriptorIndex := 6, attributes := #[] }, { accessFlags := 16409, nameIndex := 21, descriptorIndex := 6, attributes := #[] }, { accessFlags := 16409, nameIndex := 24, descriptorIndex := 6, attributes := #[] }, { accessFlags := 4122, nameIndex := 27, descriptorIndex := 28, attributes := #[] }])
  fields := #[{ name := "SELECT", type := (.object "com/example/nasute/nasute/sql/Operation"), accessFlags := 16409, slot := 0, constantValue := 0 }, { name := "INSERT", type := (.object "com/example/nasute/nasute/sql/Operation"), accessFlags := 16409, slot := 1, constantValue := 0 }, { name := "UPDATE", type := (.object "com/example/nasute/nasute/sql/Operation"), accessFlags := 16409, slot := 2, constantValue := 0 }, { name := "DELETE", type := (.object "com/example/nasute/nasute/sql/Operation"), accessFlags := 16409, slot := 3, constantValue := 0 }, { name := "CREATE", type := (.object "com/example/nasute/nasute/sql/Operation"), accessFlags := 16409, slot := 4, constantValue := 0 }, { name := "DROP", type := (.object "com/example/nasute/nasute/sql/Operation"), accessFlags := 16409, slot := 5, constantValue := 0 }, { name := "ALTER", type := (.object "com/example/nasute/nasute/sql/Operation"), accessFlags := 16409, slot := 6, constantValue := 0 }, { name := "$VALUES", type := (.array (.object "com/example/nasute/nasute/sql/Operation")), accessFlags := 4122, slot := 7, constantValue := 0 }]
  methods := #[]
  instanceTypes := #[(.object "java/lang/String"), .int, .int]
  staticTypes := #[(.object "com/example/nasute/nasute/sql/Operation"), (.object "com/example/nasute/nasute/sql/Operation"), (.object "com/example/nasute/nasute/sql/Operation"), (.object "com/example/nasute/nasute/sql/Operation"), (.object "com/example/nasute/nasute/sql/Operation"), (.object "com/example/nasute/nasute/sql/Operation"), (.object "com/example/nasute/nasute/sql/Operation"), (.array (.object "com/example/nasute/nasute/sql/Operation"))]
  resolved := Array.replicate 67 none
  statics := some 0 }

def pool7 : Array CpInfo := pool [(2, .class_ 4), (1, u "java/lang/CharSequence"), (42, .class_ 48), (0, u "java/lang/CharSequence$1CodePointIterator"), (10, .class_ 60), (0, u "java/lang/CharSequence$1CharIterator"), (5, .class_ 67), (0, u "java/lang/Object")] 63

/-- java/lang/CharSequence -/
def k7 : Class := { plain "java/lang/CharSequence" (some 0) with
  accessFlags := 1537
  interfaces := #[]
  cf := some (fileOf pool7 2 #[.nestMembers #[47, 59]] #[] 1537 66 #[] #[])
  fields := #[]
  methods := #[]
  instanceTypes := #[]
  staticTypes := #[]
  resolved := Array.replicate 131 none
  statics := none }

def pool8 : Array CpInfo := pool [(1, .class_ 2), (0, u "java/lang/constant/ConstantDesc"), (0, .class_ 4), (0, u "java/lang/Object")] 32

/-- java/lang/constant/ConstantDesc -/
def k8 : Class := { plain "java/lang/constant/ConstantDesc" (some 0) with
  accessFlags := 1537
  interfaces := #[]
  cf := some (fileOf pool8 1 #[] #[] 1537 3 #[] #[])
  fields := #[]
  methods := #[]
  instanceTypes := #[]
  staticTypes := #[]
  resolved := Array.replicate 37 none
  statics := none }

def pool9 : Array CpInfo := pool [(1, .methodref 2 3), (0, .class_ 4), (0, .nameAndType 5 6), (0, u "java/lang/Object"), (0, u "<init>"), (0, u "()V"), (2, .fieldref 10 11), (0, .class_ 12), (0, .nameAndType 13 14), (0, u "java/lang/String"), (0, u "value"), (0, u "[B"), (0, .fieldref 10 16), (0, .nameAndType 17 18), (0, u "coder"), (0, u "B"), (2, u "hash"), (0, u "I"), (2, u "hashIsZero"), (0, u "Z"), (0, .methodref 10 28), (0, .nameAndType 5 29), (0, u "([CIILjava/lang/Void;)V"), (8, .fieldref 10 39), (0, .nameAndType 40 26), (0, u "COMPACT_STRINGS"), (1, .class_ 44), (1, u "java/lang/StringUTF16"), (0, u "compress"), (1, .methodref 42 48), (0, .nameAndType 49 50), (0, u "coderFromArrayLen"), (0, u "([BI)B"), (2, u "toBytes"), (53, .class_ 109), (1, u "java/lang/StringLatin1"), (67, .methodref 42 178), (0, .nameAndType 45 179), (0, u "([CII)[B"), (29, .methodref 10 210), (0, .nameAndType 5 211), (0, u "([BB)V"), (157, u "(C)Z"), (205, .class_ 576), (0, u "java/lang/CharSequence"), (22, u "CASE_INSENSITIVE_ORDER"), (0, u "Ljava/util/Comparator;"), (181, u "valueOf"), (0, u "(C)Ljava/lang/String;"), (226, u "([C)V"), (4, .methodref 107 1016), (0, .nameAndType 1017 369), (0, u "canEncode"), (0, .methodref 107 1019), (0, .nameAndType 53 1020), (0, u "(C)[B"), (80, u "serialPersistentFields"), (0, u "[Ljava/io/ObjectStreamField;"), (0, .class_ 1104), (0, u "java/lang/String$CaseInsensitiveComparator"), (1, .class_ 1107), (0, u "java/io/Serializable"), (0, .class_ 1109), (0, u "java/lang/Comparable"), (0, .class_ 1111), (0, u "java/lang/constant/Constable"), (0, .class_ 1113), (0, u "java/lang/constant/ConstantDesc"), (2, u "serialVersionUID"), (0, u "J"), (3, u "REPL"), (0, u "C"), (2, u "LATIN1"), (1, u "UTF16")] 323

def k9m0 : Method := { name := "<init>", desc := "()V", sig := { parameters := [], returnType := none }, accessFlags := 1, code := none }
def k9c1 : Code := { maxStack := 5, maxLocals := 2, code := jdk_42_method_3_code, exceptionTable := #[], attributes := #[] }
def k9m1 : Method := { name := "<init>", desc := "([C)V", sig := { parameters := [(.array .char)], returnType := none }, accessFlags := 1, code := some k9c1 }
def k9c2 : Code := { maxStack := 4, maxLocals := 1, code := jdk_42_method_139_code, exceptionTable := #[], attributes := #[] }
def k9m2 : Method := { name := "valueOf", desc := "(C)Ljava/lang/String;", sig := { parameters := [.char], returnType := some (.object "java/lang/String") }, accessFlags := 9, code := some k9c2 }
def k9c3 : Code := { maxStack := 4, maxLocals := 6, code := jdk_42_method_149_code, exceptionTable := #[], attributes := #[] }
def k9m3 : Method := { name := "<init>", desc := "([CIILjava/lang/Void;)V", sig := { parameters := [(.array .char), .int, .int, (.object "java/lang/Void")], returnType := none }, accessFlags := 2, code := some k9c3 }
def k9c4 : Code := { maxStack := 2, maxLocals := 3, code := jdk_42_method_151_code, exceptionTable := #[], attributes := #[] }
def k9m4 : Method := { name := "<init>", desc := "([BB)V", sig := { parameters := [(.array .byte), .byte], returnType := none }, accessFlags := 0, code := some k9c4 }
/-- java/lang/String -/
def k9 : Class := { plain "java/lang/String" (some 0) with
  accessFlags := 49
  interfaces := #[4, 3, 7, 2, 8]
  cf := some (fileOf pool9 10 #[.nestMembers #[1103]] #[{ accessFlags := 1, nameIndex := 5, descriptorIndex := 6, attributes := #[] }, { accessFlags := 1, nameIndex := 5, descriptorIndex := 1010, attributes := #[] }, { accessFlags := 9, nameIndex := 782, descriptorIndex := 783, attributes := #[] }, { accessFlags := 2, nameIndex := 5, descriptorIndex := 29, attributes := #[] }, { accessFlags := 0, nameIndex := 5, descriptorIndex := 211, attributes := #[] }] 49 2 #[1106, 1108, 575, 1110, 1112] #[{ accessFlags := 18, nameIndex := 13, descriptorIndex := 14, attributes := #[] }, { accessFlags := 18, nameIndex := 17, descriptorIndex := 18, attributes := #[] }, { accessFlags := 2, nameIndex := 21, descriptorIndex := 22, attributes := #[] }, { accessFlags := 2, nameIndex := 25, descriptorIndex := 26, attributes := #[] }, { accessFlags := 26, nameIndex := 1116, descriptorIndex := 1117, attributes := #[] }, { accessFlags := 24, nameIndex := 40, descriptorIndex := 26, attributes := #[] }, { accessFlags := 26, nameIndex := 1101, descriptorIndex := 1102, attributes := #[] }, { accessFlags := 26, nameIndex := 1121, descriptorIndex := 1122, attributes := #[] }, { accessFlags := 25, nameIndex := 599, descriptorIndex := 600, attributes := #[] }, { accessFlags := 24, nameIndex := 1125, descriptorIndex := 18, attributes := #[] }, { accessFlags := 24, nameIndex := 1127, descriptorIndex := 18, attributes := #[] }])
  fields := #[{ name := "value", type := (.array .byte), accessFlags := 18, slot := 0, constantValue := 0 }, { name := "coder", type := .byte, accessFlags := 18, slot := 1, constantValue := 0 }, { name := "hash", type := .int, accessFlags := 2, slot := 2, constantValue := 0 }, { name := "hashIsZero", type := .boolean, accessFlags := 2, slot := 3, constantValue := 0 }, { name := "serialVersionUID", type := .long, accessFlags := 26, slot := 0, constantValue := 0 }, { name := "COMPACT_STRINGS", type := .boolean, accessFlags := 24, slot := 1, constantValue := 0 }, { name := "serialPersistentFields", type := (.array (.object "java/io/ObjectStreamField")), accessFlags := 26, slot := 2, constantValue := 0 }, { name := "REPL", type := .char, accessFlags := 26, slot := 3, constantValue := 0 }, { name := "CASE_INSENSITIVE_ORDER", type := (.object "java/util/Comparator"), accessFlags := 25, slot := 4, constantValue := 0 }, { name := "LATIN1", type := .byte, accessFlags := 24, slot := 5, constantValue := 0 }, { name := "UTF16", type := .byte, accessFlags := 24, slot := 6, constantValue := 0 }]
  methods := #[k9m0, k9m1, k9m2, k9m3, k9m4]
  instanceTypes := #[(.array .byte), .byte, .int, .boolean]
  staticTypes := #[.long, .boolean, (.array (.object "java/io/ObjectStreamField")), .char, (.object "java/util/Comparator"), .byte, .byte]
  resolved := Array.replicate 1451 none
  statics := some 1 }

def pool10 : Array CpInfo := pool [(6, .class_ 8), (1, u "java/lang/Object"), (0, u "<init>"), (0, u "()V"), (1, .class_ 14), (1, u "java/lang/StringUTF16"), (31, u "$assertionsDisabled"), (0, u "Z"), (13, u "HI_BYTE_SHIFT"), (0, u "I"), (2, u "LO_BYTE_SHIFT"), (49, .methodref 12 116), (0, .nameAndType 117 118), (0, u "compress"), (0, u "([CI[BII)I"), (3, u "([CII)[B"), (138, u "coderFromArrayLen"), (0, u "([BI)B"), (106, .class_ 371), (1, u "java/lang/StringUTF16$LinesSpliterator"), (58, u "MAX_LENGTH"), (196, .class_ 628), (0, u "java/lang/StringUTF16$CodePointsSpliterator"), (0, .class_ 630), (0, u "java/lang/StringUTF16$CharsSpliterator")] 4

def k10m0 : Method := { name := "<init>", desc := "()V", sig := { parameters := [], returnType := none }, accessFlags := 0, code := none }
def k10c1 : Code := { maxStack := 2, maxLocals := 2, code := jdk_52_method_15_code, exceptionTable := #[], attributes := #[] }
def k10m1 : Method := { name := "coderFromArrayLen", desc := "([BI)B", sig := { parameters := [(.array .byte), .int], returnType := some .byte }, accessFlags := 8, code := some k10c1 }
def k10c2 : Code := { maxStack := 5, maxLocals := 6, code := jdk_52_method_16_code, exceptionTable := #[], attributes := #[] }
def k10m2 : Method := { name := "compress", desc := "([CII)[B", sig := { parameters := [(.array .char), .int, .int], returnType := some (.array .byte) }, accessFlags := 9, code := some k10c2 }
def k10c3 : Code := { maxStack := 3, maxLocals := 7, code := jdk_52_method_21_code, exceptionTable := #[], attributes := #[] }
def k10m3 : Method := { name := "compress", desc := "([CI[BII)I", sig := { parameters := [(.array .char), .int, (.array .byte), .int, .int], returnType := some .int }, accessFlags := 9, code := some k10c3 }
/-- java/lang/StringUTF16 -/
def k10 : Class := { plain "java/lang/StringUTF16" (some 0) with
  accessFlags := 48
  interfaces := #[]
  cf := some (fileOf pool10 12 #[.nestMembers #[627, 629, 369]] #[{ accessFlags := 0, nameIndex := 9, descriptorIndex := 10, attributes := #[] }, { accessFlags := 8, nameIndex := 261, descriptorIndex := 262, attributes := #[] }, { accessFlags := 9, nameIndex := 117, descriptorIndex := 122, attributes := #[] }, { accessFlags := 9, nameIndex := 117, descriptorIndex := 118, attributes := #[] }] 48 6 #[] #[{ accessFlags := 26, nameIndex := 61, descriptorIndex := 62, attributes := #[] }, { accessFlags := 26, nameIndex := 65, descriptorIndex := 62, attributes := #[] }, { accessFlags := 24, nameIndex := 430, descriptorIndex := 62, attributes := #[] }, { accessFlags := 4120, nameIndex := 46, descriptorIndex := 47, attributes := #[] }])
  fields := #[{ name := "HI_BYTE_SHIFT", type := .int, accessFlags := 26, slot := 0, constantValue := 0 }, { name := "LO_BYTE_SHIFT", type := .int, accessFlags := 26, slot := 1, constantValue := 0 }, { name := "MAX_LENGTH", type := .int, accessFlags := 24, slot := 2, constantValue := 0 }, { name := "$assertionsDisabled", type := .boolean, accessFlags := 4120, slot := 3, constantValue := 0 }]
  methods := #[k10m0, k10m1, k10m2, k10m3]
  instanceTypes := #[]
  staticTypes := #[.int, .int, .int, .boolean]
  resolved := Array.replicate 635 none
  statics := none }

def pool11 : Array CpInfo := pool [(4, .class_ 6), (1, u "java/lang/Object"), (0, u "<init>"), (0, u "()V"), (5, .class_ 16), (1, u "java/lang/StringLatin1"), (73, u "canEncode"), (14, u "(C)Z"), (15, u "$assertionsDisabled"), (0, u "Z"), (98, .class_ 223), (1, u "java/lang/StringLatin1$LinesSpliterator"), (156, u "toBytes"), (1, u "(C)[B"), (7, .class_ 391), (0, u "java/lang/StringLatin1$CharsSpliterator")] 3

def k11m0 : Method := { name := "<init>", desc := "()V", sig := { parameters := [], returnType := none }, accessFlags := 0, code := none }
def k11c1 : Code := { maxStack := 2, maxLocals := 1, code := jdk_43_method_3_code, exceptionTable := #[], attributes := #[] }
def k11m1 : Method := { name := "canEncode", desc := "(C)Z", sig := { parameters := [.char], returnType := some .boolean }, accessFlags := 9, code := some k11c1 }
def k11c2 : Code := { maxStack := 4, maxLocals := 1, code := jdk_43_method_46_code, exceptionTable := #[], attributes := #[] }
def k11m2 : Method := { name := "toBytes", desc := "(C)[B", sig := { parameters := [.char], returnType := some (.array .byte) }, accessFlags := 9, code := some k11c2 }
/-- java/lang/StringLatin1 -/
def k11 : Class := { plain "java/lang/StringLatin1" (some 0) with
  accessFlags := 48
  interfaces := #[]
  cf := some (fileOf pool11 14 #[.nestMembers #[390, 221]] #[{ accessFlags := 0, nameIndex := 7, descriptorIndex := 8, attributes := #[] }, { accessFlags := 9, nameIndex := 90, descriptorIndex := 105, attributes := #[] }, { accessFlags := 9, nameIndex := 380, descriptorIndex := 382, attributes := #[] }] 48 4 #[] #[{ accessFlags := 4120, nameIndex := 121, descriptorIndex := 122, attributes := #[] }])
  fields := #[{ name := "$assertionsDisabled", type := .boolean, accessFlags := 4120, slot := 0, constantValue := 0 }]
  methods := #[k11m0, k11m1, k11m2]
  instanceTypes := #[]
  staticTypes := #[.boolean]
  resolved := Array.replicate 395 none
  statics := none }

def pool12 : Array CpInfo := pool [(1, .methodref 2 3), (0, .class_ 4), (0, .nameAndType 5 6), (0, u "java/lang/Object"), (0, u "<init>"), (0, u "()V"), (0, .class_ 8), (0, u "java/lang/Record")] 13

def k12c0 : Code := { maxStack := 1, maxLocals := 1, code := jdk_30_method_1_code, exceptionTable := #[], attributes := #[] }
def k12m0 : Method := { name := "<init>", desc := "()V", sig := { parameters := [], returnType := none }, accessFlags := 4, code := some k12c0 }
/-- java/lang/Record -/
def k12 : Class := { plain "java/lang/Record" (some 0) with
  accessFlags := 1057
  interfaces := #[]
  cf := some (fileOf pool12 7 #[] #[{ accessFlags := 4, nameIndex := 5, descriptorIndex := 6, attributes := #[] }] 1057 2 #[] #[])
  fields := #[]
  methods := #[k12m0]
  instanceTypes := #[]
  staticTypes := #[]
  resolved := Array.replicate 22 none
  statics := none }

def pool13 : Array CpInfo := pool [(1, .methodref 2 3), (0, .class_ 4), (0, .nameAndType 5 6), (0, u "java/lang/Record"), (0, u "<init>"), (0, u "()V"), (0, .string 8), (0, u "name"), (0, .methodref 10 11), (0, .class_ 12), (0, .nameAndType 13 14), (0, u "java/util/Objects"), (0, u "requireNonNull"), (0, u "(Ljava/lang/Object;Ljava/lang/String;)Ljava/lang/Object;"), (0, .fieldref 16 17), (0, .class_ 18), (0, .nameAndType 19 20), (0, u "com/example/nasute/nasute/sql/ObjectName"), (0, u "database"), (0, u "Ljava/lang/String;"), (0, .fieldref 16 22), (0, .nameAndType 8 20), (12, u "(Ljava/lang/String;Ljava/lang/String;)V")] 27

def k13c0 : Code := { maxStack := 2, maxLocals := 3, code := prog_74_method_1_code, exceptionTable := #[], attributes := #[] }
def k13m0 : Method := { name := "<init>", desc := "(Ljava/lang/String;Ljava/lang/String;)V", sig := { parameters := [(.object "java/lang/String"), (.object "java/lang/String")], returnType := none }, accessFlags := 1, code := some k13c0 }
/-- com/example/nasute/nasute/sql/ObjectName -/
def k13 : Class := { plain "com/example/nasute/nasute/sql/ObjectName" (some 12) with
  accessFlags := 49
  interfaces := #[]
  cf := some (fileOf pool13 16 #[] #[{ accessFlags := 1, nameIndex := 5, descriptorIndex := 35, attributes := #[] }] 49 2 #[] #[{ accessFlags := 18, nameIndex := 19, descriptorIndex := 20, attributes := #[] }, { accessFlags := 18, nameIndex := 8, descriptorIndex := 20, attributes := #[] }])
  fields := #[{ name := "database", type := (.object "java/lang/String"), accessFlags := 18, slot := 0, constantValue := 0 }, { name := "name", type := (.object "java/lang/String"), accessFlags := 18, slot := 1, constantValue := 0 }]
  methods := #[k13m0]
  instanceTypes := #[(.object "java/lang/String"), (.object "java/lang/String")]
  staticTypes := #[]
  resolved := Array.replicate 63 none
  statics := none }

def pool14 : Array CpInfo := pool [(2, .class_ 4), (1, u "java/lang/Object"), (0, u "<init>"), (0, u "()V"), (35, .class_ 44), (1, u "java/util/Objects"), (0, u "requireNonNull"), (48, u "(Ljava/lang/Object;Ljava/lang/String;)Ljava/lang/Object;")] 89

def k14m0 : Method := { name := "<init>", desc := "()V", sig := { parameters := [], returnType := none }, accessFlags := 2, code := none }
def k14c1 : Code := { maxStack := 3, maxLocals := 2, code := jdk_31_method_11_code, exceptionTable := #[], attributes := #[] }
def k14m1 : Method := { name := "requireNonNull", desc := "(Ljava/lang/Object;Ljava/lang/String;)Ljava/lang/Object;", sig := { parameters := [(.object "java/lang/Object"), (.object "java/lang/String")], returnType := some (.object "java/lang/Object") }, accessFlags := 9, code := some k14c1 }
/-- java/util/Objects -/
def k14 : Class := { plain "java/util/Objects" (some 0) with
  accessFlags := 49
  interfaces := #[]
  cf := some (fileOf pool14 42 #[] #[{ accessFlags := 2, nameIndex := 5, descriptorIndex := 6, attributes := #[] }, { accessFlags := 9, nameIndex := 45, descriptorIndex := 94, attributes := #[] }] 49 2 #[] #[])
  fields := #[]
  methods := #[k14m0, k14m1]
  instanceTypes := #[]
  staticTypes := #[]
  resolved := Array.replicate 184 none
  statics := none }

def pool15 : Array CpInfo := pool [(1, .class_ 2), (0, u "com/example/nasute/nasute/sql/ColumnAccess"), (0, .class_ 4), (0, u "java/lang/Object"), (9, .class_ 15), (0, u "com/example/nasute/nasute/sql/ColumnAccess$Renamed"), (0, .class_ 17), (0, u "com/example/nasute/nasute/sql/ColumnAccess$Shared"), (0, .class_ 19), (0, u "com/example/nasute/nasute/sql/ColumnAccess$Every"), (0, .class_ 21), (0, u "com/example/nasute/nasute/sql/ColumnAccess$Named")] 6

/-- com/example/nasute/nasute/sql/ColumnAccess -/
def k15 : Class := { plain "com/example/nasute/nasute/sql/ColumnAccess" (some 0) with
  accessFlags := 1537
  interfaces := #[]
  cf := some (fileOf pool15 1 #[.nestMembers #[14, 16, 18, 20]] #[] 1537 3 #[] #[])
  fields := #[]
  methods := #[]
  instanceTypes := #[]
  staticTypes := #[]
  resolved := Array.replicate 28 none
  statics := none }

def pool16 : Array CpInfo := pool [(1, .methodref 2 3), (0, .class_ 4), (0, .nameAndType 5 6), (0, u "java/lang/Record"), (0, u "<init>"), (0, u "()V"), (0, .string 8), (0, u "table"), (0, .methodref 10 11), (0, .class_ 12), (0, .nameAndType 13 14), (0, u "java/util/Objects"), (0, u "requireNonNull"), (0, u "(Ljava/lang/Object;Ljava/lang/String;)Ljava/lang/Object;"), (0, .string 16), (0, u "operation"), (0, .fieldref 18 19), (0, .class_ 20), (0, .nameAndType 8 21), (0, u "com/example/nasute/nasute/sql/ColumnAccess$Every"), (0, u "Lcom/example/nasute/nasute/sql/ObjectName;"), (0, .fieldref 18 23), (0, .nameAndType 16 24), (0, u "Lcom/example/nasute/nasute/sql/Operation;"), (0, .fieldref 18 26), (0, .nameAndType 27 28), (0, u "position"), (0, u "I"), (0, .methodref 18 30), (0, .nameAndType 5 31), (0, u "(Lcom/example/nasute/nasute/sql/ObjectName;Lcom/example/nasute/nasute/sql/Operation;I)V"), (2, u "at"), (0, u "(I)Lcom/example/nasute/nasute/sql/ColumnAccess$Every;"), (12, .class_ 49), (0, u "com/example/nasute/nasute/sql/ColumnAccess"), (4, u "()I"), (1, u "()Lcom/example/nasute/nasute/sql/ObjectName;"), (0, u "()Lcom/example/nasute/nasute/sql/Operation;")] 25

def k16c0 : Code := { maxStack := 2, maxLocals := 4, code := prog_55_method_1_code, exceptionTable := #[], attributes := #[] }
def k16m0 : Method := { name := "<init>", desc := "(Lcom/example/nasute/nasute/sql/ObjectName;Lcom/example/nasute/nasute/sql/Operation;I)V", sig := { parameters := [(.object "com/example/nasute/nasute/sql/ObjectName"), (.object "com/example/nasute/nasute/sql/Operation"), .int], returnType := none }, accessFlags := 1, code := some k16c0 }
def k16c1 : Code := { maxStack := 5, maxLocals := 2, code := prog_55_method_2_code, exceptionTable := #[], attributes := #[] }
def k16m1 : Method := { name := "at", desc := "(I)Lcom/example/nasute/nasute/sql/ColumnAccess$Every;", sig := { parameters := [.int], returnType := some (.object "com/example/nasute/nasute/sql/ColumnAccess$Every") }, accessFlags := 1, code := some k16c1 }
def k16c2 : Code := { maxStack := 1, maxLocals := 1, code := prog_55_method_6_code, exceptionTable := #[], attributes := #[] }
def k16m2 : Method := { name := "table", desc := "()Lcom/example/nasute/nasute/sql/ObjectName;", sig := { parameters := [], returnType := some (.object "com/example/nasute/nasute/sql/ObjectName") }, accessFlags := 1, code := some k16c2 }
def k16c3 : Code := { maxStack := 1, maxLocals := 1, code := prog_55_method_7_code, exceptionTable := #[], attributes := #[] }
def k16m3 : Method := { name := "operation", desc := "()Lcom/example/nasute/nasute/sql/Operation;", sig := { parameters := [], returnType := some (.object "com/example/nasute/nasute/sql/Operation") }, accessFlags := 1, code := some k16c3 }
def k16c4 : Code := { maxStack := 1, maxLocals := 1, code := prog_55_method_8_code, exceptionTable := #[], attributes := #[] }
def k16m4 : Method := { name := "position", desc := "()I", sig := { parameters := [], returnType := some .int }, accessFlags := 1, code := some k16c4 }
/-- com/example/nasute/nasute/sql/ColumnAccess$Every -/
def k16 : Class := { plain "com/example/nasute/nasute/sql/ColumnAccess$Every" (some 12) with
  accessFlags := 49
  interfaces := #[15]
  cf := some (fileOf pool16 18 #[.nestHost 48] #[{ accessFlags := 1, nameIndex := 5, descriptorIndex := 31, attributes := #[] }, { accessFlags := 1, nameIndex := 34, descriptorIndex := 35, attributes := #[] }, { accessFlags := 1, nameIndex := 8, descriptorIndex := 56, attributes := #[] }, { accessFlags := 1, nameIndex := 16, descriptorIndex := 57, attributes := #[] }, { accessFlags := 1, nameIndex := 27, descriptorIndex := 54, attributes := #[] }] 49 2 #[48] #[{ accessFlags := 18, nameIndex := 8, descriptorIndex := 21, attributes := #[] }, { accessFlags := 18, nameIndex := 16, descriptorIndex := 24, attributes := #[] }, { accessFlags := 18, nameIndex := 27, descriptorIndex := 28, attributes := #[] }])
  fields := #[{ name := "table", type := (.object "com/example/nasute/nasute/sql/ObjectName"), accessFlags := 18, slot := 0, constantValue := 0 }, { name := "operation", type := (.object "com/example/nasute/nasute/sql/Operation"), accessFlags := 18, slot := 1, constantValue := 0 }, { name := "position", type := .int, accessFlags := 18, slot := 2, constantValue := 0 }]
  methods := #[k16m0, k16m1, k16m2, k16m3, k16m4]
  instanceTypes := #[(.object "com/example/nasute/nasute/sql/ObjectName"), (.object "com/example/nasute/nasute/sql/Operation"), .int]
  staticTypes := #[]
  resolved := Array.replicate 83 none
  statics := none }

def pool17 : Array CpInfo := pool [(2, .class_ 4), (1, u "java/lang/Object"), (0, u "<init>"), (0, u "()V"), (17, .class_ 26), (1, u "jdk/internal/util/Preconditions"), (28, .class_ 56), (0, u "jdk/internal/util/Preconditions$4"), (57, .class_ 115), (0, u "jdk/internal/util/Preconditions$1"), (7, u "SIOOBE_FORMATTER"), (0, u "Ljava/util/function/BiFunction;"), (0, .class_ 126), (0, u "jdk/internal/util/Preconditions$2"), (3, u "AIOOBE_FORMATTER"), (0, .class_ 132), (0, u "jdk/internal/util/Preconditions$3"), (3, u "IOOBE_FORMATTER")] 57

def k17m0 : Method := { name := "<init>", desc := "()V", sig := { parameters := [], returnType := none }, accessFlags := 1, code := none }
/-- jdk/internal/util/Preconditions -/
def k17 : Class := { plain "jdk/internal/util/Preconditions" (some 0) with
  accessFlags := 33
  interfaces := #[]
  cf := some (fileOf pool17 24 #[.nestMembers #[55, 131, 125, 114]] #[{ accessFlags := 1, nameIndex := 5, descriptorIndex := 6, attributes := #[] }] 33 2 #[] #[{ accessFlags := 25, nameIndex := 123, descriptorIndex := 124, attributes := #[] }, { accessFlags := 25, nameIndex := 130, descriptorIndex := 124, attributes := #[] }, { accessFlags := 25, nameIndex := 136, descriptorIndex := 124, attributes := #[] }])
  fields := #[{ name := "SIOOBE_FORMATTER", type := (.object "java/util/function/BiFunction"), accessFlags := 25, slot := 0, constantValue := 0 }, { name := "AIOOBE_FORMATTER", type := (.object "java/util/function/BiFunction"), accessFlags := 25, slot := 1, constantValue := 0 }, { name := "IOOBE_FORMATTER", type := (.object "java/util/function/BiFunction"), accessFlags := 25, slot := 2, constantValue := 0 }]
  methods := #[k17m0]
  instanceTypes := #[]
  staticTypes := #[(.object "java/util/function/BiFunction"), (.object "java/util/function/BiFunction"), (.object "java/util/function/BiFunction")]
  resolved := Array.replicate 194 none
  statics := some 2 }

def pool18 : Array CpInfo := pool [(9, u "<init>"), (6, .class_ 18), (1, u "java/lang/Object"), (0, u "()V"), (1, .class_ 23), (1, u "jdk/internal/util/ArraysSupport"), (0, u "LOG2_ARRAY_LONG_INDEX_SCALE"), (0, u "I"), (2, u "U"), (0, u "Ljdk/internal/misc/Unsafe;"), (8, u "BIG_ENDIAN"), (0, u "Z"), (8, u "LOG2_BYTE_BIT_SIZE"), (4, u "LOG2_ARRAY_INT_INDEX_SCALE"), (54, u "JLA"), (0, u "Ljdk/internal/access/JavaLangAccess;"), (11, u "LOG2_ARRAY_BOOLEAN_INDEX_SCALE"), (9, u "LOG2_ARRAY_BYTE_INDEX_SCALE"), (5, u "LOG2_ARRAY_CHAR_INDEX_SCALE"), (5, u "LOG2_ARRAY_SHORT_INDEX_SCALE"), (18, u "LOG2_ARRAY_FLOAT_INDEX_SCALE"), (24, u "LOG2_ARRAY_DOUBLE_INDEX_SCALE"), (89, u "T_BOOLEAN"), (2, u "T_CHAR"), (1, u "T_FLOAT"), (1, u "T_DOUBLE"), (1, u "T_BYTE"), (1, u "T_SHORT"), (1, u "T_INT"), (1, u "T_LONG"), (1, u "SOFT_MAX_ARRAY_LENGTH")] 83

def k18m0 : Method := { name := "<init>", desc := "()V", sig := { parameters := [], returnType := none }, accessFlags := 2, code := none }
/-- jdk/internal/util/ArraysSupport -/
def k18 : Class := { plain "jdk/internal/util/ArraysSupport" (some 0) with
  accessFlags := 33
  interfaces := #[]
  cf := some (fileOf pool18 21 #[] #[{ accessFlags := 2, nameIndex := 9, descriptorIndex := 19, attributes := #[] }] 33 16 #[] #[{ accessFlags := 24, nameIndex := 28, descriptorIndex := 29, attributes := #[] }, { accessFlags := 26, nameIndex := 38, descriptorIndex := 39, attributes := #[] }, { accessFlags := 25, nameIndex := 121, descriptorIndex := 25, attributes := #[] }, { accessFlags := 25, nameIndex := 131, descriptorIndex := 25, attributes := #[] }, { accessFlags := 25, nameIndex := 137, descriptorIndex := 25, attributes := #[] }, { accessFlags := 25, nameIndex := 143, descriptorIndex := 25, attributes := #[] }, { accessFlags := 25, nameIndex := 53, descriptorIndex := 25, attributes := #[] }, { accessFlags := 25, nameIndex := 24, descriptorIndex := 25, attributes := #[] }, { accessFlags := 25, nameIndex := 162, descriptorIndex := 25, attributes := #[] }, { accessFlags := 25, nameIndex := 187, descriptorIndex := 25, attributes := #[] }, { accessFlags := 26, nameIndex := 48, descriptorIndex := 25, attributes := #[] }, { accessFlags := 25, nameIndex := 277, descriptorIndex := 25, attributes := #[] }, { accessFlags := 25, nameIndex := 280, descriptorIndex := 25, attributes := #[] }, { accessFlags := 25, nameIndex := 282, descriptorIndex := 25, attributes := #[] }, { accessFlags := 25, nameIndex := 284, descriptorIndex := 25, attributes := #[] }, { accessFlags := 25, nameIndex := 286, descriptorIndex := 25, attributes := #[] }, { accessFlags := 25, nameIndex := 288, descriptorIndex := 25, attributes := #[] }, { accessFlags := 25, nameIndex := 290, descriptorIndex := 25, attributes := #[] }, { accessFlags := 25, nameIndex := 292, descriptorIndex := 25, attributes := #[] }, { accessFlags := 26, nameIndex := 108, descriptorIndex := 109, attributes := #[] }, { accessFlags := 25, nameIndex := 294, descriptorIndex := 25, attributes := #[] }])
  fields := #[{ name := "U", type := (.object "jdk/internal/misc/Unsafe"), accessFlags := 24, slot := 0, constantValue := 0 }, { name := "BIG_ENDIAN", type := .boolean, accessFlags := 26, slot := 1, constantValue := 0 }, { name := "LOG2_ARRAY_BOOLEAN_INDEX_SCALE", type := .int, accessFlags := 25, slot := 2, constantValue := 0 }, { name := "LOG2_ARRAY_BYTE_INDEX_SCALE", type := .int, accessFlags := 25, slot := 3, constantValue := 0 }, { name := "LOG2_ARRAY_CHAR_INDEX_SCALE", type := .int, accessFlags := 25, slot := 4, constantValue := 0 }, { name := "LOG2_ARRAY_SHORT_INDEX_SCALE", type := .int, accessFlags := 25, slot := 5, constantValue := 0 }, { name := "LOG2_ARRAY_INT_INDEX_SCALE", type := .int, accessFlags := 25, slot := 6, constantValue := 0 }, { name := "LOG2_ARRAY_LONG_INDEX_SCALE", type := .int, accessFlags := 25, slot := 7, constantValue := 0 }, { name := "LOG2_ARRAY_FLOAT_INDEX_SCALE", type := .int, accessFlags := 25, slot := 8, constantValue := 0 }, { name := "LOG2_ARRAY_DOUBLE_INDEX_SCALE", type := .int, accessFlags := 25, slot := 9, constantValue := 0 }, { name := "LOG2_BYTE_BIT_SIZE", type := .int, accessFlags := 26, slot := 10, constantValue := 0 }, { name := "T_BOOLEAN", type := .int, accessFlags := 25, slot := 11, constantValue := 0 }, { name := "T_CHAR", type := .int, accessFlags := 25, slot := 12, constantValue := 0 }, { name := "T_FLOAT", type := .int, accessFlags := 25, slot := 13, constantValue := 0 }, { name := "T_DOUBLE", type := .int, accessFlags := 25, slot := 14, constantValue := 0 }, { name := "T_BYTE", type := .int, accessFlags := 25, slot := 15, constantValue := 0 }, { name := "T_SHORT", type := .int, accessFlags := 25, slot := 16, constantValue := 0 }, { name := "T_INT", type := .int, accessFlags := 25, slot := 17, constantValue := 0 }, { name := "T_LONG", type := .int, accessFlags := 25, slot := 18, constantValue := 0 }, { name := "JLA", type := (.object "jdk/internal/access/JavaLangAccess"), accessFlags := 26, slot := 19, constantValue := 0 }, { name := "SOFT_MAX_ARRAY_LENGTH", type := .int, accessFlags := 25, slot := 20, constantValue := 0 }]
  methods := #[k18m0]
  instanceTypes := #[]
  staticTypes := #[(.object "jdk/internal/misc/Unsafe"), .boolean, .int, .int, .int, .int, .int, .int, .int, .int, .int, .int, .int, .int, .int, .int, .int, .int, .int, (.object "jdk/internal/access/JavaLangAccess"), .int]
  resolved := Array.replicate 378 none
  statics := none }

def pool19 : Array CpInfo := pool [(1, u "java/lang/Cloneable"), (0, .class_ 1), (0, u "java/lang/Object"), (0, .class_ 3)] 3

/-- java/lang/Cloneable -/
def k19 : Class := { plain "java/lang/Cloneable" (some 0) with
  accessFlags := 1537
  interfaces := #[]
  cf := some (fileOf pool19 2 #[] #[] 1537 4 #[] #[])
  fields := #[]
  methods := #[]
  instanceTypes := #[]
  staticTypes := #[]
  resolved := Array.replicate 8 none
  statics := none }

/-- the primitive byte -/
def k20 : Class := { plain "byte" none with kind := .primitive 'B', accessFlags := 0x411 }
/-- [B -/
def k21 : Class := { plain "[B" (some 0) with kind := .array 20 .byte, interfaces := #[19, 4], accessFlags := 1041 }

/-- the primitive char -/
def k22 : Class := { plain "char" none with kind := .primitive 'C', accessFlags := 0x411 }
/-- [C -/
def k23 : Class := { plain "[C" (some 0) with kind := .array 22 .char, interfaces := #[19, 4], accessFlags := 1041 }

/-- the primitive int -/
def k24 : Class := { plain "int" none with kind := .primitive 'I', accessFlags := 0x411 }
/-- [I -/
def k25 : Class := { plain "[I" (some 0) with kind := .array 24 .int, interfaces := #[19, 4], accessFlags := 1041 }

def heap : Heap := #[{ cls := 6, slots := #[.ref 3, .ref 4, .ref 5, .ref 6, .ref 7, .ref 8, .ref 9, .null], vm := .statics 6 },
  { cls := 9, slots := #[.long 0, .int 1, .null, .int 0, .null, .int 0, .int 0], vm := .statics 9 },
  { cls := 17, slots := #[.null, .null, .null], vm := .statics 17 },
  { cls := 6, slots := #[.null, .int 0, .int 0], vm := .none },
  { cls := 6, slots := #[.null, .int 1, .int 0], vm := .none },
  { cls := 6, slots := #[.null, .int 2, .int 0], vm := .none },
  { cls := 6, slots := #[.null, .int 3, .int 0], vm := .none },
  { cls := 6, slots := #[.null, .int 4, .int 0], vm := .none },
  { cls := 6, slots := #[.null, .int 5, .int 0], vm := .none },
  { cls := 6, slots := #[.null, .int 6, .int 0], vm := .none }]
def classes : Array Class := #[k0, k1, k2, k3, k4, k5, k6, k7, k8, k9, k10, k11, k12, k13, k14, k15, k16, k17, k18, k19, k20, k21, k22, k23, k24, k25]
def interned : List (Array UInt16 × Addr) := []
def slotsUsed : Nat := 39
def theMethod : MethodId := ⟨1, 2⟩
def args0 : Array Value := #[.int 5, .int 2, .int 1, .int 66]
def aboutOver (below : List Frame) : State where
  vm := { classes := classes, interned := interned.toArray }
  heap := heap
  slotsUsed := slotsUsed
  threads := #[{ frames := .invoking theMethod args0 :: below }]
def below0 : List Frame := [.native { method := ⟨0, 0⟩, args := #[] }]
def about1 : State := aboutOver below0
def p0 : Program := .bare "" "" ""
def e0 : Env := launch0.env 0 0 0
theorem w_frames : about1.frames = Frame.invoking theMethod args0 :: below0 := rfl
set_option maxRecDepth 65536 in
theorem w_args : argsFit about1.vm theMethod args0 = true := by decide +kernel
set_option maxRecDepth 65536 in
theorem w_heap : heapFits about1 = true := by decide +kernel
set_option maxRecDepth 65536 in
theorem w_runnable : about1.curStatus? = some .runnable := by decide +kernel
set_option maxRecDepth 65536 in
theorem w_alone : about1.alone = true := by decide +kernel
set_option maxRecDepth 65536 in
theorem w_named : about1.methodNamed? x = some theMethod := by decide +kernel
set_option maxRecDepth 65536 in
theorem w_hears : about1.hears theMethod below0 = true := by decide +kernel
set_option maxRecDepth 65536 in
theorem w_ripe : about1.ripe theMethod args0 below0 = true := by decide +kernel
theorem w_running : about1.status = .running := rfl
set_option maxRecDepth 65536 in
theorem w_room : about1.hasRoom e0.platform room_1 = true :=
  launch0.hasRoom_least _ room_1 (by decide +kernel) (by decide +kernel) (by decide +kernel) (by decide +kernel) (by decide +kernel) (by decide +kernel)
theorem allAtoms_all (ts : List Jvm.Cond) (a : Array Jvm.Value) (st : Jvm.State) : (allAtoms ts).before a st = ts.all (fun c => c.before a st) := by
  induction ts with
  | nil => rfl
  | cons c t ih =>
    show (Jvm.Cond.and c (allAtoms t)).before a st = _
    rw [Jvm.Cond.before_and, ih, List.all_cons]
def words1 : List Jvm.Cond := Jvm.Cond.code x code maxLocals ret :: tables_1
/-- a 'code' word, met by the world's own term for the bytes: nothing is compared byte by byte -/
theorem code_word {y : MethodName} {bytes : ByteArray} {mx : Nat} {rt : Option FieldType} {a : Array Value} {s : State} {m : MethodId} {meth : Method} {c : Code} (h1 : s.methodNamed? y = some m) (h2 : s.vm.method? m = some meth) (h3 : meth.code = some c) (h4 : c.code = bytes)
    (h5 : (c.maxLocals == mx && c.exceptionTable.isEmpty && decide (c.maxStack ≤ mostOperands) && decide (meth.sig.returnType = rt) && !meth.locks && decide (parseMethodDescriptor y.desc = some meth.sig)) = true) : (Jvm.Cond.code y bytes mx rt).before a s = true := by
  simp only [Bool.and_eq_true, beq_iff_eq, Bool.not_eq_true', decide_eq_true_eq] at h5
  obtain ⟨⟨⟨⟨⟨g1, g2⟩, g3⟩, g4⟩, g5⟩, g6⟩ := h5
  simp [Cond.before, Cond.holds, Cond.value, h1, h2, h3, h4, g1, g2, g3, g4, g5, g6]
def isCode : Jvm.Cond → Bool
  | .code _ _ _ _ => true
  | _ => false
theorem all_split {L : List Jvm.Cond} {P : Jvm.Cond → Bool} (h1 : L.all (fun c => isCode c || P c) = true) (h2 : ∀ c ∈ L.filter isCode, P c = true) : L.all P = true := by
  refine List.all_eq_true.mpr fun c hc => ?_
  have h := List.all_eq_true.mp h1 c hc
  rcases Bool.eq_false_or_eq_true (isCode c) with hi | hi
  · exact h2 c (List.mem_filter.mpr ⟨hc, hi⟩)
  · simpa [hi] using h
set_option maxRecDepth 65536 in
theorem w_c0 : (Jvm.Cond.code x code maxLocals ret).before args0 about1 = true := code_word (m := ⟨1, 2⟩) (meth := k1m2) (c := k1c2) (by decide +kernel) rfl rfl rfl (by decide +kernel)
set_option maxRecDepth 65536 in
theorem w_c1 : (Jvm.Cond.code ({ cls := "com/example/nasute/nasute/sql/EveryAtPinLaw", name := "op", desc := "(I)Lcom/example/nasute/nasute/sql/Operation;" } : Jvm.MethodName) method_2_code (1 : Nat) (Option.some (Jvm.ClassFile.FieldType.object "com/example/nasute/nasute/sql/Operation"))).before args0 about1 = true := code_word (m := ⟨1, 1⟩) (meth := k1m1) (c := k1c1) (by decide +kernel) rfl rfl rfl (by decide +kernel)
set_option maxRecDepth 65536 in
theorem w_c2 : (Jvm.Cond.code ({ cls := "java/lang/String", name := "<init>", desc := "([C)V" } : Jvm.MethodName) jdk_42_method_3_code (2 : Nat) (Option.none : Option Jvm.ClassFile.FieldType)).before args0 about1 = true := code_word (m := ⟨9, 1⟩) (meth := k9m1) (c := k9c1) (by decide +kernel) rfl rfl rfl (by decide +kernel)
set_option maxRecDepth 65536 in
theorem w_c3 : (Jvm.Cond.code ({ cls := "java/lang/String", name := "<init>", desc := "([CIILjava/lang/Void;)V" } : Jvm.MethodName) jdk_42_method_149_code (6 : Nat) (Option.none : Option Jvm.ClassFile.FieldType)).before args0 about1 = true := code_word (m := ⟨9, 3⟩) (meth := k9m3) (c := k9c3) (by decide +kernel) rfl rfl rfl (by decide +kernel)
set_option maxRecDepth 65536 in
theorem w_c4 : (Jvm.Cond.code ({ cls := "java/lang/Object", name := "<init>", desc := "()V" } : Jvm.MethodName) object_method_1_code (1 : Nat) (Option.none : Option Jvm.ClassFile.FieldType)).before args0 about1 = true := code_word (m := ⟨0, 0⟩) (meth := k0m0) (c := k0c0) (by decide +kernel) rfl rfl rfl (by decide +kernel)
set_option maxRecDepth 65536 in
theorem w_c5 : (Jvm.Cond.code ({ cls := "java/lang/StringUTF16", name := "compress", desc := "([CII)[B" } : Jvm.MethodName) jdk_52_method_16_code (6 : Nat) (Option.some (Jvm.ClassFile.FieldType.array Jvm.ClassFile.FieldType.byte))).before args0 about1 = true := code_word (m := ⟨10, 2⟩) (meth := k10m2) (c := k10c2) (by decide +kernel) rfl rfl rfl (by decide +kernel)
set_option maxRecDepth 65536 in
theorem w_c6 : (Jvm.Cond.code ({ cls := "java/lang/StringUTF16", name := "compress", desc := "([CI[BII)I" } : Jvm.MethodName) jdk_52_method_21_code (7 : Nat) (Option.some Jvm.ClassFile.FieldType.int)).before args0 about1 = true := code_word (m := ⟨10, 3⟩) (meth := k10m3) (c := k10c3) (by decide +kernel) rfl rfl rfl (by decide +kernel)
set_option maxRecDepth 65536 in
theorem w_c7 : (Jvm.Cond.code ({ cls := "java/lang/StringUTF16", name := "coderFromArrayLen", desc := "([BI)B" } : Jvm.MethodName) jdk_52_method_15_code (2 : Nat) (Option.some Jvm.ClassFile.FieldType.byte)).before args0 about1 = true := code_word (m := ⟨10, 1⟩) (meth := k10m1) (c := k10c1) (by decide +kernel) rfl rfl rfl (by decide +kernel)
set_option maxRecDepth 65536 in
theorem w_c8 : (Jvm.Cond.code ({ cls := "java/lang/String", name := "valueOf", desc := "(C)Ljava/lang/String;" } : Jvm.MethodName) jdk_42_method_139_code (1 : Nat) (Option.some (Jvm.ClassFile.FieldType.object "java/lang/String"))).before args0 about1 = true := code_word (m := ⟨9, 2⟩) (meth := k9m2) (c := k9c2) (by decide +kernel) rfl rfl rfl (by decide +kernel)
set_option maxRecDepth 65536 in
theorem w_c9 : (Jvm.Cond.code ({ cls := "java/lang/StringLatin1", name := "canEncode", desc := "(C)Z" } : Jvm.MethodName) jdk_43_method_3_code (1 : Nat) (Option.some Jvm.ClassFile.FieldType.boolean)).before args0 about1 = true := code_word (m := ⟨11, 1⟩) (meth := k11m1) (c := k11c1) (by decide +kernel) rfl rfl rfl (by decide +kernel)
set_option maxRecDepth 65536 in
theorem w_c10 : (Jvm.Cond.code ({ cls := "java/lang/StringLatin1", name := "toBytes", desc := "(C)[B" } : Jvm.MethodName) jdk_43_method_46_code (1 : Nat) (Option.some (Jvm.ClassFile.FieldType.array Jvm.ClassFile.FieldType.byte))).before args0 about1 = true := code_word (m := ⟨11, 2⟩) (meth := k11m2) (c := k11c2) (by decide +kernel) rfl rfl rfl (by decide +kernel)
set_option maxRecDepth 65536 in
theorem w_c11 : (Jvm.Cond.code ({ cls := "java/lang/String", name := "<init>", desc := "([BB)V" } : Jvm.MethodName) jdk_42_method_151_code (3 : Nat) (Option.none : Option Jvm.ClassFile.FieldType)).before args0 about1 = true := code_word (m := ⟨9, 4⟩) (meth := k9m4) (c := k9c4) (by decide +kernel) rfl rfl rfl (by decide +kernel)
set_option maxRecDepth 65536 in
theorem w_c12 : (Jvm.Cond.code ({ cls := "com/example/nasute/nasute/sql/ObjectName", name := "<init>", desc := "(Ljava/lang/String;Ljava/lang/String;)V" } : Jvm.MethodName) prog_74_method_1_code (3 : Nat) (Option.none : Option Jvm.ClassFile.FieldType)).before args0 about1 = true := code_word (m := ⟨13, 0⟩) (meth := k13m0) (c := k13c0) (by decide +kernel) rfl rfl rfl (by decide +kernel)
set_option maxRecDepth 65536 in
theorem w_c13 : (Jvm.Cond.code ({ cls := "java/lang/Record", name := "<init>", desc := "()V" } : Jvm.MethodName) jdk_30_method_1_code (1 : Nat) (Option.none : Option Jvm.ClassFile.FieldType)).before args0 about1 = true := code_word (m := ⟨12, 0⟩) (meth := k12m0) (c := k12c0) (by decide +kernel) rfl rfl rfl (by decide +kernel)
set_option maxRecDepth 65536 in
theorem w_c14 : (Jvm.Cond.code ({ cls := "java/util/Objects", name := "requireNonNull", desc := "(Ljava/lang/Object;Ljava/lang/String;)Ljava/lang/Object;" } : Jvm.MethodName) jdk_31_method_11_code (2 : Nat) (Option.some (Jvm.ClassFile.FieldType.object "java/lang/Object"))).before args0 about1 = true := code_word (m := ⟨14, 1⟩) (meth := k14m1) (c := k14c1) (by decide +kernel) rfl rfl rfl (by decide +kernel)
set_option maxRecDepth 65536 in
theorem w_c15 : (Jvm.Cond.code ({ cls := "com/example/nasute/nasute/sql/ColumnAccess$Every", name := "<init>", desc := "(Lcom/example/nasute/nasute/sql/ObjectName;Lcom/example/nasute/nasute/sql/Operation;I)V" } : Jvm.MethodName) prog_55_method_1_code (4 : Nat) (Option.none : Option Jvm.ClassFile.FieldType)).before args0 about1 = true := code_word (m := ⟨16, 0⟩) (meth := k16m0) (c := k16c0) (by decide +kernel) rfl rfl rfl (by decide +kernel)
set_option maxRecDepth 65536 in
theorem w_c16 : (Jvm.Cond.code ({ cls := "com/example/nasute/nasute/sql/ColumnAccess$Every", name := "at", desc := "(I)Lcom/example/nasute/nasute/sql/ColumnAccess$Every;" } : Jvm.MethodName) prog_55_method_2_code (2 : Nat) (Option.some (Jvm.ClassFile.FieldType.object "com/example/nasute/nasute/sql/ColumnAccess$Every"))).before args0 about1 = true := code_word (m := ⟨16, 1⟩) (meth := k16m1) (c := k16c1) (by decide +kernel) rfl rfl rfl (by decide +kernel)
set_option maxRecDepth 65536 in
theorem w_c17 : (Jvm.Cond.code ({ cls := "com/example/nasute/nasute/sql/ColumnAccess$Every", name := "table", desc := "()Lcom/example/nasute/nasute/sql/ObjectName;" } : Jvm.MethodName) prog_55_method_6_code (1 : Nat) (Option.some (Jvm.ClassFile.FieldType.object "com/example/nasute/nasute/sql/ObjectName"))).before args0 about1 = true := code_word (m := ⟨16, 2⟩) (meth := k16m2) (c := k16c2) (by decide +kernel) rfl rfl rfl (by decide +kernel)
set_option maxRecDepth 65536 in
theorem w_c18 : (Jvm.Cond.code ({ cls := "com/example/nasute/nasute/sql/ColumnAccess$Every", name := "operation", desc := "()Lcom/example/nasute/nasute/sql/Operation;" } : Jvm.MethodName) prog_55_method_7_code (1 : Nat) (Option.some (Jvm.ClassFile.FieldType.object "com/example/nasute/nasute/sql/Operation"))).before args0 about1 = true := code_word (m := ⟨16, 3⟩) (meth := k16m3) (c := k16c3) (by decide +kernel) rfl rfl rfl (by decide +kernel)
set_option maxRecDepth 65536 in
theorem w_c19 : (Jvm.Cond.code ({ cls := "com/example/nasute/nasute/sql/ColumnAccess$Every", name := "position", desc := "()I" } : Jvm.MethodName) prog_55_method_8_code (1 : Nat) (Option.some Jvm.ClassFile.FieldType.int)).before args0 about1 = true := code_word (m := ⟨16, 4⟩) (meth := k16m4) (c := k16c4) (by decide +kernel) rfl rfl rfl (by decide +kernel)
def codes1 : List Jvm.Cond := [Jvm.Cond.code x code maxLocals ret, Jvm.Cond.code ({ cls := "com/example/nasute/nasute/sql/EveryAtPinLaw", name := "op", desc := "(I)Lcom/example/nasute/nasute/sql/Operation;" } : Jvm.MethodName) method_2_code (1 : Nat) (Option.some (Jvm.ClassFile.FieldType.object "com/example/nasute/nasute/sql/Operation")), Jvm.Cond.code ({ cls := "java/lang/String", name := "<init>", desc := "([C)V" } : Jvm.MethodName) jdk_42_method_3_code (2 : Nat) (Option.none : Option Jvm.ClassFile.FieldType), Jvm.Cond.code ({ cls := "java/lang/String", name := "<init>", desc := "([CIILjava/lang/Void;)V" } : Jvm.MethodName) jdk_42_method_149_code (6 : Nat) (Option.none : Option Jvm.ClassFile.FieldType), Jvm.Cond.code ({ cls := "java/lang/Object", name := "<init>", desc := "()V" } : Jvm.MethodName) object_method_1_code (1 : Nat) (Option.none : Option Jvm.ClassFile.FieldType), Jvm.Cond.code ({ cls := "java/lang/StringUTF16", name := "compress", desc := "([CII)[B" } : Jvm.MethodName) jdk_52_method_16_code (6 : Nat) (Option.some (Jvm.ClassFile.FieldType.array Jvm.ClassFile.FieldType.byte)), Jvm.Cond.code ({ cls := "java/lang/StringUTF16", name := "compress", desc := "([CI[BII)I" } : Jvm.MethodName) jdk_52_method_21_code (7 : Nat) (Option.some Jvm.ClassFile.FieldType.int), Jvm.Cond.code ({ cls := "java/lang/StringUTF16", name := "coderFromArrayLen", desc := "([BI)B" } : Jvm.MethodName) jdk_52_method_15_code (2 : Nat) (Option.some Jvm.ClassFile.FieldType.byte), Jvm.Cond.code ({ cls := "java/lang/String", name := "valueOf", desc := "(C)Ljava/lang/String;" } : Jvm.MethodName) jdk_42_method_139_code (1 : Nat) (Option.some (Jvm.ClassFile.FieldType.object "java/lang/String")), Jvm.Cond.code ({ cls := "java/lang/StringLatin1", name := "canEncode", desc := "(C)Z" } : Jvm.MethodName) jdk_43_method_3_code (1 : Nat) (Option.some Jvm.ClassFile.FieldType.boolean), Jvm.Cond.code ({ cls := "java/lang/StringLatin1", name := "toBytes", desc := "(C)[B" } : Jvm.MethodName) jdk_43_method_46_code (1 : Nat) (Option.some (Jvm.ClassFile.FieldType.array Jvm.ClassFile.FieldType.byte)), Jvm.Cond.code ({ cls := "java/lang/String", name := "<init>", desc := "([BB)V" } : Jvm.MethodName) jdk_42_method_151_code (3 : Nat) (Option.none : Option Jvm.ClassFile.FieldType), Jvm.Cond.code ({ cls := "com/example/nasute/nasute/sql/ObjectName", name := "<init>", desc := "(Ljava/lang/String;Ljava/lang/String;)V" } : Jvm.MethodName) prog_74_method_1_code (3 : Nat) (Option.none : Option Jvm.ClassFile.FieldType), Jvm.Cond.code ({ cls := "java/lang/Record", name := "<init>", desc := "()V" } : Jvm.MethodName) jdk_30_method_1_code (1 : Nat) (Option.none : Option Jvm.ClassFile.FieldType), Jvm.Cond.code ({ cls := "java/util/Objects", name := "requireNonNull", desc := "(Ljava/lang/Object;Ljava/lang/String;)Ljava/lang/Object;" } : Jvm.MethodName) jdk_31_method_11_code (2 : Nat) (Option.some (Jvm.ClassFile.FieldType.object "java/lang/Object")), Jvm.Cond.code ({ cls := "com/example/nasute/nasute/sql/ColumnAccess$Every", name := "<init>", desc := "(Lcom/example/nasute/nasute/sql/ObjectName;Lcom/example/nasute/nasute/sql/Operation;I)V" } : Jvm.MethodName) prog_55_method_1_code (4 : Nat) (Option.none : Option Jvm.ClassFile.FieldType), Jvm.Cond.code ({ cls := "com/example/nasute/nasute/sql/ColumnAccess$Every", name := "at", desc := "(I)Lcom/example/nasute/nasute/sql/ColumnAccess$Every;" } : Jvm.MethodName) prog_55_method_2_code (2 : Nat) (Option.some (Jvm.ClassFile.FieldType.object "com/example/nasute/nasute/sql/ColumnAccess$Every")), Jvm.Cond.code ({ cls := "com/example/nasute/nasute/sql/ColumnAccess$Every", name := "table", desc := "()Lcom/example/nasute/nasute/sql/ObjectName;" } : Jvm.MethodName) prog_55_method_6_code (1 : Nat) (Option.some (Jvm.ClassFile.FieldType.object "com/example/nasute/nasute/sql/ObjectName")), Jvm.Cond.code ({ cls := "com/example/nasute/nasute/sql/ColumnAccess$Every", name := "operation", desc := "()Lcom/example/nasute/nasute/sql/Operation;" } : Jvm.MethodName) prog_55_method_7_code (1 : Nat) (Option.some (Jvm.ClassFile.FieldType.object "com/example/nasute/nasute/sql/Operation")), Jvm.Cond.code ({ cls := "com/example/nasute/nasute/sql/ColumnAccess$Every", name := "position", desc := "()I" } : Jvm.MethodName) prog_55_method_8_code (1 : Nat) (Option.some Jvm.ClassFile.FieldType.int)]
set_option maxRecDepth 65536 in
theorem codes_eq : words1.filter isCode = codes1 := rfl
theorem w_codes : ∀ c ∈ words1.filter isCode, c.before args0 about1 = true := by
  rw [codes_eq]
  intro c hc
  simp only [codes1, List.mem_cons, List.not_mem_nil, or_false] at hc
  rcases hc with rfl | rfl | rfl | rfl | rfl | rfl | rfl | rfl | rfl | rfl | rfl | rfl | rfl | rfl | rfl | rfl | rfl | rfl | rfl | rfl
  · exact w_c0
  · exact w_c1
  · exact w_c2
  · exact w_c3
  · exact w_c4
  · exact w_c5
  · exact w_c6
  · exact w_c7
  · exact w_c8
  · exact w_c9
  · exact w_c10
  · exact w_c11
  · exact w_c12
  · exact w_c13
  · exact w_c14
  · exact w_c15
  · exact w_c16
  · exact w_c17
  · exact w_c18
  · exact w_c19
set_option maxRecDepth 65536 in
theorem w_t1 : (words1.take 24).all (fun c => isCode c || c.before args0 about1) = true := by decide +kernel
set_option maxRecDepth 65536 in
theorem w_t2 : ((words1.drop 24).take 24).all (fun c => isCode c || c.before args0 about1) = true := by decide +kernel
set_option maxRecDepth 65536 in
theorem w_t3 : (((words1.drop 24).drop 24).take 24).all (fun c => isCode c || c.before args0 about1) = true := by decide +kernel
set_option maxRecDepth 65536 in
theorem w_t4 : ((((words1.drop 24).drop 24).drop 24).take 24).all (fun c => isCode c || c.before args0 about1) = true := by decide +kernel
set_option maxRecDepth 65536 in
theorem w_t5 : (((((words1.drop 24).drop 24).drop 24).drop 24).take 24).all (fun c => isCode c || c.before args0 about1) = true := by decide +kernel
set_option maxRecDepth 65536 in
theorem w_t6 : (((((words1.drop 24).drop 24).drop 24).drop 24).drop 24).all (fun c => isCode c || c.before args0 about1) = true := by decide +kernel
theorem w_tables : (allAtoms (Jvm.Cond.code x code maxLocals ret :: tables_1)).before args0 about1 = true := by
  rw [allAtoms_all]
  show words1.all (fun c => c.before args0 about1) = true
  refine all_split ?_ w_codes
  rw [← List.take_append_drop 24 words1, List.all_append, w_t1, ← List.take_append_drop 24 (words1.drop 24), List.all_append, w_t2, ← List.take_append_drop 24 ((words1.drop 24).drop 24), List.all_append, w_t3, ← List.take_append_drop 24 (((words1.drop 24).drop 24).drop 24), List.all_append, w_t4, ← List.take_append_drop 24 ((((words1.drop 24).drop 24).drop 24).drop 24), List.all_append, w_t5, w_t6]
  rfl
set_option maxRecDepth 65536 in
theorem w_rest : rest_1_c.before args0 about1 = true := by decide +kernel
set_option maxRecDepth 65536 in
theorem w_case : (Jvm.Cond.and given_1 narrow_1).before args0 about1 = true := by decide +kernel
theorem w_applies : (headSpec (Jvm.Cond.code x code maxLocals ret :: tables_1) room_1).applies x e0.platform about1 = true :=
  (Spec.applies_iff w_frames).mpr ⟨w_running, w_runnable, w_alone, w_named, w_hears, w_ripe, w_room, w_tables⟩
theorem atStart : AtStart classFile x code maxLocals ret World_1 tables_1 room_1 Calls_1 rest_1 Pre_1 launch0 p0 e0 about1 theMethod args0 below0 :=
  ⟨lists_1, trivial, launch0.admits_env _ _ _, launch0.least_env, fairChoices_fair.cas, fairChoices_fair.clock, w_frames, w_args, w_heap, w_applies, trivial, w_rest, w_case⟩
end start1
theorem witness_1 : WitnessClaimed_1 := ⟨start1.p0, start1.e0, start1.about1, start1.theMethod, start1.args0, start1.below0, start1.atStart⟩
end Jvm.Pilot.@@N@@
