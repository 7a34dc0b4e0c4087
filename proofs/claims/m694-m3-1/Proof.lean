import JvmDerived
import JvmDerived.Pilot.@@N@@Statement
import JvmDerived.Pilot.@@N@@Code
set_option linter.unusedVariables false
set_option linter.unusedSimpArgs false
namespace Jvm.RoadKit
open Sem ClassFile Op Lib Jvm.Stand Jvm.Free Jvm.LawKit
section New
variable {p : Program} {l : Launch} {e : Env} {R : Room} {s : State} {m : MethodId} {args : Array Value} {below : List Frame} {meth : Method} {c : Code} {T : State} {locs : List Loc} {cells slots : Nat}
theorem retI (X : Stand p l e R s m args below meth c T locs cells slots) (hx : p.tables.exec = Jvm.exec) {pc : Nat} {Ls : Array Slot} {z : Int32} {rest : List Value} (hret : meth.sig.returnType = some .int) (hd : decode c.code pc = .ok (.ireturn, 1)) {fs : List Frame}
    (hl : ∀ (f : JFrame) (acts : List Action), f.method = m → f.locked = none → f.entered = [] → (doReturn e (T.setTop f) acts (some (.int z))).1 = T.setFrames fs) : Steps p.tables e below (T.setTop (mkF m pc Ls (.int z :: rest))) (T.setFrames fs) := by
  have hm' : T.vm.method? m = some meth := X.method'
  have hn : narrow .int (.int z) = .int z := rfl
  show Steps p.tables e below (T.setTop { method := m, pc := pc, locals := Ls, stack := _ :: rest, locked := none }) _
  jvm_step X.here [X.here.top, hx, hd, hm', hret, hn]
  first | (intro acts; rw [hl _ acts rfl rfl rfl]) | rw [hl _ _ rfl rfl rfl]
  exact Steps.refl _
theorem own_retA (X : Stand p l e R s m args below meth c T locs cells slots) (hx : p.tables.exec = Jvm.exec) {pc : Nat} {Ls : Array Slot} {v : Value} {t : FieldType} {rest : List Value} (hv : v.isRef = true) (hret : meth.sig.returnType = some t) (ht : t.isReference = true) (hd : decode c.code pc = .ok (.areturn, 1)) {fs : List Frame}
    (hl : ∀ (f : JFrame) (acts : List Action), f.method = m → f.locked = none → f.entered = [] → (doReturn e (T.setTop f) acts (some v)).1 = T.setFrames fs) : Steps p.tables e below (T.setTop (mkF m pc Ls (v :: rest))) (T.setFrames fs) := by
  have hm' : T.vm.method? m = some meth := X.method'
  show Steps p.tables e below (T.setTop { method := m, pc := pc, locals := Ls, stack := _ :: rest, locked := none }) _
  jvm_step X.here [X.here.top, hx, hd, hm', hret, hv, ht]
  first | (intro acts; rw [hl _ acts rfl rfl rfl]) | rw [hl _ _ rfl rfl rfl]
  exact Steps.refl _
theorem own_go {tb : Tables} {e : Env} {below : List Frame} {A B : State} {P : State → Outcome → Prop} (k : ∀ t, Steps tb e below B t → Steps tb e below A t) (h : ∃ s₂ o, Steps tb e below B s₂ ∧ P s₂ o) : ∃ s₂ o, Steps tb e below A s₂ ∧ P s₂ o := by
  obtain ⟨t, o, h1, h2⟩ := h
  exact ⟨t, o, k t h1, h2⟩
theorem own_abs {tb : Tables} {e : Env} {below : List Frame} {A : State} {P0 : State → Outcome → Prop} (h : ∀ P : State → Outcome → Prop, (∀ s₂ o, P0 s₂ o → P s₂ o) → ∃ s₂ o, Steps tb e below A s₂ ∧ P s₂ o) : ∃ s₂ o, Steps tb e below A s₂ ∧ P0 s₂ o := h P0 fun _ _ q => q
theorem own_oldsz {Z : State} {n0 : Nat} {h : Heap} (O : Old Z n0 h) : n0 ≤ h.size := O.1 ▸ O.2.1
theorem own_b255 (x : Int32) : ¬ (x &&& (255 : Int32)) < 0 ∧ ¬ (255 : Int32) < (x &&& (255 : Int32)) := by
  have h := c_and x 255 (by decide)
  have e : (255 : Int32).toInt = 255 := rfl
  have e0 : (0 : Int32).toInt = 0 := rfl
  rw [Int32.lt_iff_toInt_lt, Int32.lt_iff_toInt_lt]
  omega
theorem own_nc2 (x : Int32) : nar .char (x.toUInt32.toUInt16.toUInt32.toInt32) = x.toUInt32.toUInt16.toUInt32.toInt32 := by
  show (((x.toUInt32.toUInt16.toUInt32).toInt32).toUInt32).toUInt16.toUInt32.toInt32 = _
  rw [UInt32.toUInt32_toInt32, UInt16.toUInt16_toUInt32]
theorem own_nb2 (x : Int32) : x.toInt8.toInt32.toInt8.toInt32 = x.toInt8.toInt32 := by simp
/-- a String's bytes, of its chars -/
abbrev own_bs (cs : List Int32) : List Value := (cs.map fun c => c.toInt8.toInt32).map Value.int
theorem own_narR {v : Value} {t : FieldType} (hv : v.isRef = true) : narrow t v = v := by cases v <;> simp [Value.isRef] at hv <;> cases t <;> rfl
theorem own_fitR {v : Value} {s : String} (hv : v.isRef = true) : fits (.object s) v = true := by cases v <;> simp [Value.isRef] at hv <;> rfl
end New
end Jvm.RoadKit
/- laws to paste: Road.backV, Road.lenW, Road.chN, Road.codOf (cut by pick.py; bodies as the Statement names them) -/
namespace Jvm.Pilot.@@N@@
namespace StrChars
open Jvm Sem ClassFile Op Lib Jvm.Stand Jvm.Free.XT Jvm.Free.ALB Jvm.Free.JM Jvm.Free
open Jvm.Lib.Cold (StaticIs)
/-- a char array whose places are chars -/
def Ch (a : Addr) (A : Cell) (U : State) : Prop := Arr .char a A U ∧ Typed .char A
theorem Ch.mv {a : Addr} {A : Cell} {U U' : State} (h : Ch a A U) (hal : U.vm.Alike U'.vm) (hh : U'.heap = U.heap) : Ch a A U' := ⟨h.1.mv hal hh, h.2⟩
theorem Ch.keep {a : Addr} {A : Cell} {U U' : State} (h : Ch a A U) (hal : U.vm.Alike U'.vm) (hk : U'.heap[a]? = some A) : Ch a A U' := ⟨h.1.keep hal hk, h.2⟩
/-- what place i of a char[]'s cell holds -/
def cv (A : Cell) (i : Nat) : Int32 := match A.slots[i]? with | some (.int x) => x | _ => 0
theorem Ch.get {a : Addr} {A : Cell} {U : State} (h : Ch a A U) {i : Nat} (hi : i < A.slots.size) : A.slots[i]? = some (.int (cv A i)) := by
  have e := Array.getElem?_eq_getElem hi
  have f := h.2 i _ e
  unfold cv; rw [e]
  generalize A.slots[i] = v at f
  cases v <;> simp [fits] at f ⊢
/-- the byte that i2b leaves of a char -/
def lo8 (x : Int32) : Int32 := x.toInt8.toInt32
theorem fits_lo8 (y : Int32) : fits .byte (.int (lo8 y)) = true := by
  have h1 := y.toInt8.le_toInt
  have h2 := y.toInt8.toInt_lt
  simp only [lo8, fits, Bool.and_eq_true, decide_eq_true_eq, Int32.le_iff_toInt_le, Int8.toInt_toInt32, show (-128 : Int32).toInt = -128 from by decide, show (127 : Int32).toInt = 127 from by decide]
  omega
/-- A' is A but that each place j of lo .. hi - 1 holds f j -/
def Laid (A A' : Cell) (lo hi : Nat) (f : Nat → Value) : Prop := A'.cls = A.cls ∧ A'.vm = A.vm ∧ A'.slots.size = A.slots.size ∧ ∀ i, A'.slots[i]? = if lo ≤ i ∧ i < hi then some (f i) else A.slots[i]?
theorem Laid.zero (A : Cell) (lo : Nat) (f : Nat → Value) : Laid A A lo (lo + 0) f := ⟨rfl, rfl, rfl, fun i => by rw [if_neg (by omega)]⟩
theorem Laid.step {A Ak : Cell} {lo k : Nat} {f : Nat → Value} {v : Value} (h : Laid A Ak lo k f) (hlo : lo ≤ k) (hk : k < Ak.slots.size) (hv : v = f k) : Laid A (Ak.setSlot k v) lo (k + 1) f := by
  refine ⟨h.1, h.2.1, by simpa [Cell.setSlot] using h.2.2.1, fun i => ?_⟩
  by_cases e : k = i
  · subst e; rw [Cell.slots_setSlot_self v hk, if_pos (by omega), hv]
  · rw [Cell.slots_setSlot_ne v e, h.2.2.2 i]
    by_cases q : lo ≤ i ∧ i < k
    · rw [if_pos q, if_pos (by omega)]
    · rw [if_neg q, if_neg (by omega)]
def U16 : String := "java/lang/StringUTF16"
namespace Cmp5
def yN : MethodName := ⟨"java/lang/StringUTF16", "compress", "([CI[BII)I"⟩
abbrev yB : ByteArray := jdk_52_method_21_code
theorem d0 : decode yB 0 = .ok (.iconst 0, 1) := by decide +kernel
theorem d1 : decode yB 1 = .ok (.istore 5, 2) := by decide +kernel
theorem d3 : decode yB 3 = .ok (.iload 5, 2) := by decide +kernel
theorem d5 : decode yB 5 = .ok (.iload 4, 2) := by decide +kernel
theorem d7 : decode yB 7 = .ok (.if_icmp (.ge) 37, 3) := by decide +kernel
theorem d10 : decode yB 10 = .ok (.aload_n 0, 1) := by decide +kernel
theorem d11 : decode yB 11 = .ok (.iload_n 1, 1) := by decide +kernel
theorem d12 : decode yB 12 = .ok (.caload, 1) := by decide +kernel
theorem d13 : decode yB 13 = .ok (.istore 6, 2) := by decide +kernel
theorem d15 : decode yB 15 = .ok (.iload 6, 2) := by decide +kernel
theorem d17 : decode yB 17 = .ok (.sipush 255, 3) := by decide +kernel
theorem d20 : decode yB 20 = .ok (.if_icmp (.le) 6, 3) := by decide +kernel
theorem d26 : decode yB 26 = .ok (.aload_n 2, 1) := by decide +kernel
theorem d27 : decode yB 27 = .ok (.iload_n 3, 1) := by decide +kernel
theorem d28 : decode yB 28 = .ok (.iload 6, 2) := by decide +kernel
theorem d30 : decode yB 30 = .ok (.i2b, 1) := by decide +kernel
theorem d31 : decode yB 31 = .ok (.bastore, 1) := by decide +kernel
theorem d32 : decode yB 32 = .ok (.iinc 1 1, 3) := by decide +kernel
theorem d35 : decode yB 35 = .ok (.iinc 3 1, 3) := by decide +kernel
theorem d38 : decode yB 38 = .ok (.iinc 5 1, 3) := by decide +kernel
theorem d41 : decode yB 41 = .ok (.goto (-38), 3) := by decide +kernel
theorem d44 : decode yB 44 = .ok (.iload 4, 2) := by decide +kernel
theorem d46 : decode yB 46 = .ok (.ireturn, 1) := by decide +kernel
def site : List Cond := []
def tab : Cond := tabOf yN yB 7 (some .int) site
def P (b : Addr) (A : Cell) (d : Addr) (B : Cell) (o q len : Nat) (args : Array Value) (s : State) : Prop := args = #[.ref b, .int (Int32.ofNat o), .ref d, .int (Int32.ofNat q), .int (Int32.ofNat len)] ∧ Ch b A s ∧ Arr .byte d B s ∧ b ≠ d ∧ o + len ≤ A.slots.size ∧ q + len ≤ B.slots.size ∧ ∀ i, i < len → ¬ 255 < cv A (o + i)
def E (b : Addr) (A : Cell) (d : Addr) (B : Cell) (o q len : Nat) (r : Option Value) (s u : State) : Prop := r = some (.int (Int32.ofNat len)) ∧ ∃ B', Put d B' s u ∧ Laid B B' q (q + len) (fun j => Value.int (lo8 (cv A (o + (j - q)))))
/-- no char of the range above 255: len; the places written hold each char's low byte -/
theorem law (l : Launch) (b : Addr) (A : Cell) (d : Addr) (B : Cell) (o q len : Nat) : Law l yN 5 5 0 0 yB 7 (some .int) site (P b A d B o q len) (E b A d B o q len) (copyLocs d q len) 0 0 := by
  refine Law.of_walk (plainFor_of_name (by decide +kernel)) (by decide +kernel) (by decide +kernel) (by decide) (fun _ _ h => by rw [h.1]; rfl) (fun _ U U' hal hh h => ⟨h.1, h.2.1.mv hal hh, h.2.2.1.mv hal hh, h.2.2.2⟩) (fun r U U' V V' h1 hal h2 h => ⟨h.1, h.2.elim fun B' q => ⟨B', q.1.mv h1 h2, q.2⟩⟩) ?_
  intro p e s m args below meth c s₁ X0 hexec hbytes hml hret hlk hnm hown hh0 W hP
  obtain ⟨rfl, hA, hB, hne, l1, l2, hp⟩ := hP
  have c1 : Steps p.tables e below (s₁.setTop (entryFrame m #[.ref b, .int (Int32.ofNat o), .ref d, .int (Int32.ofNat q), .int (Int32.ofNat len)] 7)) (s₁.setTop (mkF m 0 #[.val (.ref b), .val (.int (Int32.ofNat o)), .val (.ref d), .val (.int (Int32.ofNat q)), .val (.int (Int32.ofNat len)), .unset, .unset] [])) := entry rfl
  have hA0 := hA.1.mv X0.warmed.alike hh0
  have hB0 := hB.mv X0.warmed.alike hh0
  have a31 := hA.1.2.2.2
  have c2 : Steps p.tables e below (s₁.setTop (entryFrame m #[.ref b, .int (Int32.ofNat o), .ref d, .int (Int32.ofNat q), .int (Int32.ofNat len)] 7)) (s₁.setTop (mkF m 3 #[.val (.ref b), .val (.int (Int32.ofNat o)), .val (.ref d), .val (.int (Int32.ofNat q)), .val (.int (Int32.ofNat len)), .val (.int 0), .unset] [])) := c1.trans (by
    refine iconstV X0.here hexec rfl 0 (hb hbytes d0) (by decide) ?_
    refine XS.istore X0.here hexec rfl (hb hbytes d1) rfl rfl ?_
    exact Steps.refl _)
  have loop : ∀ (r i : Nat), i + r = len → ∀ (z : Slot), (z = .unset ∨ ∃ w, z = .val w ∧ w.category = 1) → ∀ (Tl : State) (Bk : Cell), Stand p l e { frames := 0, locals := 0, cells := 0, slots := 0 } s m #[.ref b, .int (Int32.ofNat o), .ref d, .int (Int32.ofNat q), .int (Int32.ofNat len)] below meth c Tl ([] ++ copyLocs d q i) 0 0 → Put d Bk s₁ Tl → Laid B Bk q (q + i) (fun j => Value.int (lo8 (cv A (o + (j - q))))) →
      Steps p.tables e below (s₁.setTop (entryFrame m #[.ref b, .int (Int32.ofNat o), .ref d, .int (Int32.ofNat q), .int (Int32.ofNat len)] 7)) (Tl.setTop (mkF m 3 #[.val (.ref b), .val (.int (Int32.ofNat (o + i))), .val (.ref d), .val (.int (Int32.ofNat (q + i))), .val (.int (Int32.ofNat len)), .val (.int (Int32.ofNat i)), z] [])) → ∃ (T' : State) (B' : Cell) (z' : Slot), Stand p l e { frames := 0, locals := 0, cells := 0, slots := 0 } s m #[.ref b, .int (Int32.ofNat o), .ref d, .int (Int32.ofNat q), .int (Int32.ofNat len)] below meth c T' ([] ++ copyLocs d q len) 0 0 ∧ Put d B' s₁ T' ∧ Laid B B' q (q + len) (fun j => Value.int (lo8 (cv A (o + (j - q))))) ∧
      Steps p.tables e below (s₁.setTop (entryFrame m #[.ref b, .int (Int32.ofNat o), .ref d, .int (Int32.ofNat q), .int (Int32.ofNat len)] 7)) (T'.setTop (mkF m 3 #[.val (.ref b), .val (.int (Int32.ofNat (o + len))), .val (.ref d), .val (.int (Int32.ofNat (q + len))), .val (.int (Int32.ofNat len)), .val (.int (Int32.ofNat len)), z'] [])) := by
    intro r
    induction r with
    | zero =>
      intro i hi z hz Tl Bk Xl pl fl cl
      have hil : i = len := by omega
      rw [hil] at Xl fl cl
      exact ⟨Tl, Bk, z, Xl, pl, fl, cl⟩
    | succ r ih =>
      intro i hi z hz Tl Bk Xl pl fl cl
      have all := X0.warmed.alike.symm.trans Xl.warmed.alike
      have hAl := hA0.keep all (pl.other hne hA0.1)
      have hBk := hB0.like all pl.1 fl.1 fl.2.1 fl.2.2.1
      have hlt : q + i < Bk.slots.size := by rw [fl.2.2.1]; omega
      have c3 : Steps p.tables e below (s₁.setTop (entryFrame m #[.ref b, .int (Int32.ofNat o), .ref d, .int (Int32.ofNat q), .int (Int32.ofNat len)] 7)) (Tl.setTop (mkF m 12 #[.val (.ref b), .val (.int (Int32.ofNat (o + i))), .val (.ref d), .val (.int (Int32.ofNat (q + i))), .val (.int (Int32.ofNat len)), .val (.int (Int32.ofNat i)), z] [.int (Int32.ofNat (o + i)), .ref b])) := cl.trans (by
        refine XS.iload Xl.here hexec rfl (hb hbytes d3) rfl ?_
        refine XS.iload Xl.here hexec rfl (hb hbytes d5) rfl ?_
        refine XS.icmpNo Xl.here hexec rfl (hb hbytes d7) rfl (ii_ge_f (lt32 (by omega) (by omega))) ?_
        refine XS.aloadN Xl.here hexec rfl (hb hbytes d10) rfl rfl ?_
        refine XS.iloadN Xl.here hexec rfl (hb hbytes d11) rfl ?_
        exact Steps.refl _)
      have c4 : Steps p.tables e below (s₁.setTop (entryFrame m #[.ref b, .int (Int32.ofNat o), .ref d, .int (Int32.ofNat q), .int (Int32.ofNat len)] 7)) (Tl.setTop (mkF m 13 #[.val (.ref b), .val (.int (Int32.ofNat (o + i))), .val (.ref d), .val (.int (Int32.ofNat (q + i))), .val (.int (Int32.ofNat len)), .val (.int (Int32.ofNat i)), z] [.int (cv A (o + i))])) := c3.trans (by
        refine Xl.aget hexec hAl rfl (hA.get (i := o + i) (by omega)) rfl rfl (hb hbytes d12) ?_
        exact Steps.refl _)
      have c5 : Steps p.tables e below (s₁.setTop (entryFrame m #[.ref b, .int (Int32.ofNat o), .ref d, .int (Int32.ofNat q), .int (Int32.ofNat len)] 7)) (Tl.setTop (mkF m 15 #[.val (.ref b), .val (.int (Int32.ofNat (o + i))), .val (.ref d), .val (.int (Int32.ofNat (q + i))), .val (.int (Int32.ofNat len)), .val (.int (Int32.ofNat i)), .val (.int (cv A (o + i)))] [])) := c4.trans (by
        refine XS.istoreS Xl.here hexec rfl (hb hbytes d13) rfl rfl hz ?_
        exact Steps.refl _)
      have c6 : Steps p.tables e below (s₁.setTop (entryFrame m #[.ref b, .int (Int32.ofNat o), .ref d, .int (Int32.ofNat q), .int (Int32.ofNat len)] 7)) (Tl.setTop (mkF m 31 #[.val (.ref b), .val (.int (Int32.ofNat (o + i))), .val (.ref d), .val (.int (Int32.ofNat (q + i))), .val (.int (Int32.ofNat len)), .val (.int (Int32.ofNat i)), .val (.int (cv A (o + i)))] [.int (lo8 (cv A (o + i))), .int (Int32.ofNat (q + i)), .ref d])) := c5.trans (by
        refine XS.iload Xl.here hexec rfl (hb hbytes d15) rfl ?_
        refine sipushV Xl.here hexec rfl 255 (hb hbytes d17) (by decide) ?_
        refine XS.icmpYes Xl.here hexec rfl (pc0 := 20) rfl (hb hbytes d20) rfl (ii_le_t (hp i (by omega))) (by decide) rfl ?_
        refine XS.aloadN Xl.here hexec rfl (hb hbytes d26) rfl rfl ?_
        refine XS.iloadN Xl.here hexec rfl (hb hbytes d27) rfl ?_
        refine XS.iload Xl.here hexec rfl (hb hbytes d28) rfl ?_
        refine i2b Xl.here hexec rfl (hb hbytes d30) rfl ?_
        exact Steps.refl _)
      obtain ⟨T7, X7, p7, st7⟩ := Xl.aput hexec hBk rfl hlt rfl (fits_lo8 (cv A (o + i))) (g := (mkF m 31 #[.val (.ref b), .val (.int (Int32.ofNat (o + i))), .val (.ref d), .val (.int (Int32.ofNat (q + i))), .val (.int (Int32.ofNat len)), .val (.int (Int32.ofNat i)), .val (.int (cv A (o + i)))] [.int (lo8 (cv A (o + i))), .int (Int32.ofNat (q + i)), .ref d])) rfl (rest := []) rfl (hb hbytes d31)
      have c8 : Steps p.tables e below (s₁.setTop (entryFrame m #[.ref b, .int (Int32.ofNat o), .ref d, .int (Int32.ofNat q), .int (Int32.ofNat len)] 7)) (T7.setTop (mkF m 32 #[.val (.ref b), .val (.int (Int32.ofNat (o + i))), .val (.ref d), .val (.int (Int32.ofNat (q + i))), .val (.int (Int32.ofNat len)), .val (.int (Int32.ofNat i)), .val (.int (cv A (o + i)))] [])) := c6.trans (st7 _ (Steps.refl _))
      have c9 : Steps p.tables e below (s₁.setTop (entryFrame m #[.ref b, .int (Int32.ofNat o), .ref d, .int (Int32.ofNat q), .int (Int32.ofNat len)] 7)) (T7.setTop (mkF m 3 #[.val (.ref b), .val (.int (Int32.ofNat (o + i) + 1)), .val (.ref d), .val (.int (Int32.ofNat (q + i) + 1)), .val (.int (Int32.ofNat len)), .val (.int (Int32.ofNat i + 1)), .val (.int (cv A (o + i)))] [])) := c8.trans (by
        refine iincV X7.here hexec rfl 1 (hb hbytes d32) (by decide) rfl rfl ?_
        refine iincV X7.here hexec rfl 1 (hb hbytes d35) (by decide) rfl rfl ?_
        refine iincV X7.here hexec rfl 1 (hb hbytes d38) (by decide) rfl rfl ?_
        refine XS.goto X7.here hexec rfl (pc0 := 41) rfl (hb hbytes d41) (by decide) rfl ?_
        exact Steps.refl _)
      have c10 : Steps p.tables e below (s₁.setTop (entryFrame m #[.ref b, .int (Int32.ofNat o), .ref d, .int (Int32.ofNat q), .int (Int32.ofNat len)] 7)) (T7.setTop (mkF m 3 #[.val (.ref b), .val (.int (Int32.ofNat (o + (i + 1)))), .val (.ref d), .val (.int (Int32.ofNat (q + (i + 1)))), .val (.int (Int32.ofNat len)), .val (.int (Int32.ofNat (i + 1))), .val (.int (cv A (o + i)))] [])) := by
        have := c9
        rw [succ32, succ32, succ32] at this
        exact this
      exact ih (i + 1) (by omega) _ (Or.inr ⟨_, rfl, rfl⟩) T7 _ (by rw [copyLocs_step, ← List.append_assoc]; exact X7) (pl.trans p7) (fl.step (by omega) hlt (by simp)) c10
  obtain ⟨T9, B9, z9, X9, p9, f9, g9⟩ := loop len 0 (by omega) .unset (Or.inl rfl) s₁ B (by simpa [copyLocs] using X0) ⟨hB0.1, fun _ _ => rfl, rfl⟩ (Laid.zero _ _ _) c2
  have c11 : Steps p.tables e below (s₁.setTop (entryFrame m #[.ref b, .int (Int32.ofNat o), .ref d, .int (Int32.ofNat q), .int (Int32.ofNat len)] 7)) (T9.setTop (mkF m 46 #[.val (.ref b), .val (.int (Int32.ofNat (o + len))), .val (.ref d), .val (.int (Int32.ofNat (q + len))), .val (.int (Int32.ofNat len)), .val (.int (Int32.ofNat len)), z9] [.int (Int32.ofNat len)])) := g9.trans (by
    refine XS.iload X9.here hexec rfl (hb hbytes d3) rfl ?_
    refine XS.iload X9.here hexec rfl (hb hbytes d5) rfl ?_
    refine XS.icmpYes X9.here hexec rfl (pc0 := 7) rfl (hb hbytes d7) rfl (ii_ge_t (nlt32 (by omega) (Nat.le_refl _))) (by decide) rfl ?_
    refine XS.iload X9.here hexec rfl (hb hbytes d44) rfl ?_
    exact Steps.refl _)
  exact ⟨T9, some (.int (Int32.ofNat len)), _, _, _, X9, by simp, rfl, rfl, (fun h => by cases h), ⟨rfl, B9, p9.from hh0, f9⟩, fun fs hl => c11.trans (X9.ireturnOut hexec hret rfl (Or.inl rfl) (hb hbytes d46) hl)⟩
end Cmp5
namespace Cmp3
def yN : MethodName := ⟨"java/lang/StringUTF16", "compress", "([CII)[B"⟩
abbrev yB : ByteArray := jdk_52_method_16_code
theorem d0 : decode yB 0 = .ok (.iload_n 2, 1) := by decide +kernel
theorem d1 : decode yB 1 = .ok (.newarray .byte, 2) := by decide +kernel
theorem d3 : decode yB 3 = .ok (.astore_n 3, 1) := by decide +kernel
theorem d4 : decode yB 4 = .ok (.aload_n 0, 1) := by decide +kernel
theorem d5 : decode yB 5 = .ok (.iload_n 1, 1) := by decide +kernel
theorem d6 : decode yB 6 = .ok (.aload_n 3, 1) := by decide +kernel
theorem d7 : decode yB 7 = .ok (.iconst 0, 1) := by decide +kernel
theorem d8 : decode yB 8 = .ok (.iload_n 2, 1) := by decide +kernel
theorem d9 : decode yB 9 = .ok (.invokestatic 115, 3) := by decide +kernel
theorem d12 : decode yB 12 = .ok (.istore 4, 2) := by decide +kernel
theorem d14 : decode yB 14 = .ok (.iload 4, 2) := by decide +kernel
theorem d16 : decode yB 16 = .ok (.iload_n 2, 1) := by decide +kernel
theorem d17 : decode yB 17 = .ok (.if_icmp (.eq) 40, 3) := by decide +kernel
theorem d57 : decode yB 57 = .ok (.aload_n 3, 1) := by decide +kernel
theorem d58 : decode yB 58 = .ok (.areturn, 1) := by decide +kernel
def site : List Cond := [.arrayClass .byte, Cmp5.tab] ++ staticW U16 115 Cmp5.yN
def tab : Cond := tabOf yN yB 6 (some (.array .byte)) site
def P (b : Addr) (A : Cell) (o len : Nat) (args : Array Value) (s : State) : Prop := args = #[.ref b, .int (Int32.ofNat o), .int (Int32.ofNat len)] ∧ Ch b A s ∧ o + len ≤ A.slots.size ∧ len ≤ 536870912 ∧ ∀ i, i < len → ¬ 255 < cv A (o + i)
def E (b : Addr) (A : Cell) (o len : Nat) (r : Option Value) (s u : State) : Prop := NewArr .byte "[B" len (fun j => .int (lo8 (cv A (o + j)))) r s u ∧ u.heap.size = s.heap.size + 1
/-- no char of the range above 255: a new byte[] of their low bytes -/
theorem law (l : Launch) (b : Addr) (A : Cell) (o len : Nat) : Law l yN 3 3 1 18 yB 6 (some (.array .byte)) site (P b A o len) (E b A o len) [] 1 len := by
  refine Law.of_walk (plainFor_of_name (by decide +kernel)) (by decide +kernel) (by decide +kernel) (by decide) (fun _ _ h => by rw [h.1]; rfl) (fun _ U U' hal hh h => ⟨h.1, h.2.1.mv hal hh, h.2.2⟩) (fun r U U' V V' h1 hal h2 h => ⟨NewArr.mv r U U' V V' h1 hal h2 h.1, by rw [h1, h2]; exact h.2⟩) ?_
  intro p e s m args below meth c s₁ X0 hexec hbytes hml hret hlk hnm hown hh0 W hP
  obtain ⟨rfl, hA, l1, l2, hp⟩ := hP
  have a31 := hA.1.2.2.2
  have c1 : Steps p.tables e below (s₁.setTop (entryFrame m #[.ref b, .int (Int32.ofNat o), .int (Int32.ofNat len)] 6)) (s₁.setTop (mkF m 0 #[.val (.ref b), .val (.int (Int32.ofNat o)), .val (.int (Int32.ofNat len)), .unset, .unset, .unset] [])) := entry rfl
  have c2 : Steps p.tables e below (s₁.setTop (entryFrame m #[.ref b, .int (Int32.ofNat o), .int (Int32.ofNat len)] 6)) (s₁.setTop (mkF m 1 #[.val (.ref b), .val (.int (Int32.ofNat o)), .val (.int (Int32.ofNat len)), .unset, .unset, .unset] [.int (Int32.ofNat len)])) := c1.trans (by
    refine XS.iloadN X0.here hexec rfl (hb hbytes d0) rfl ?_
    exact Steps.refl _)
  obtain ⟨T3, B3, X3, ba3, bs3, bv3, bh3, bf3, st3⟩ := X0.anew hexec (atype := .byte) (wk W (.arrayClass .byte)) rfl (by show len * 1 ≤ _; omega) (by omega) (g := (mkF m 1 #[.val (.ref b), .val (.int (Int32.ofNat o)), .val (.int (Int32.ofNat len)), .unset, .unset, .unset] [.int (Int32.ofNat len)])) rfl (hb hbytes d1) (rest := []) rfl (Nat.le_refl _) (by show 0 + len ≤ len; omega)
  rw [hh0] at ba3 st3
  have kp3 : XT.Kept s T3 := (XT.Kept.of_eq hh0).push bh3
  have hA3 := hA.keep X3.warmed.alike (kp3 _ _ hA.1.1)
  have hne : b ≠ s.heap.size := hA.1.ne
  have c4 : Steps p.tables e below (s₁.setTop (entryFrame m #[.ref b, .int (Int32.ofNat o), .int (Int32.ofNat len)] 6)) (T3.setTop (mkF m 3 #[.val (.ref b), .val (.int (Int32.ofNat o)), .val (.int (Int32.ofNat len)), .unset, .unset, .unset] [.ref s.heap.size])) := c2.trans (st3 _ (Steps.refl _))
  have c5 : Steps p.tables e below (s₁.setTop (entryFrame m #[.ref b, .int (Int32.ofNat o), .int (Int32.ofNat len)] 6)) (T3.setTop (mkF m 9 #[.val (.ref b), .val (.int (Int32.ofNat o)), .val (.int (Int32.ofNat len)), .val (.ref s.heap.size), .unset, .unset] [.int (Int32.ofNat len), .int 0, .ref s.heap.size, .int (Int32.ofNat o), .ref b])) := c4.trans (by
    refine XS.astoreN X3.here hexec rfl (hb hbytes d3) rfl rfl rfl ?_
    refine XS.aloadN X3.here hexec rfl (hb hbytes d4) rfl rfl ?_
    refine XS.iloadN X3.here hexec rfl (hb hbytes d5) rfl ?_
    refine XS.aloadN X3.here hexec rfl (hb hbytes d6) rfl rfl ?_
    refine iconstV X3.here hexec rfl 0 (hb hbytes d7) (by decide) ?_
    refine XS.iloadN X3.here hexec rfl (hb hbytes d8) rfl ?_
    exact Steps.refl _)
  obtain ⟨v6, T6, X6, E6, g6⟩ := X3.callS hexec (Cmp5.law l b A s.heap.size B3 o 0 len) hown (wks W (staticW U16 115 Cmp5.yN)) (wk W Cmp5.tab) (W := 0) (Nat.le_of_ble_eq_true rfl) (Nat.le_of_ble_eq_true rfl) (Nat.le_refl _) (by show 0 + len + 0 ≤ len; omega) (g := (mkF m 9 #[.val (.ref b), .val (.int (Int32.ofNat o)), .val (.int (Int32.ofNat len)), .val (.ref s.heap.size), .unset, .unset] [.int (Int32.ofNat len), .int (Int32.ofNat 0), .ref s.heap.size, .int (Int32.ofNat o), .ref b])) rfl (by rw [hml]; rfl) c5 (argsL := [.ref b, .int (Int32.ofNat o), .ref s.heap.size, .int (Int32.ofNat 0), .int (Int32.ofNat len)]) (rest := []) rfl rfl (by show 2 * 0 + 0 ≤ _; decide) (hb hbytes d9) (⟨rfl, hA3, ba3, hne, l1, by rw [bs3]; simp, hp⟩)
  obtain ⟨rfl, B6, p6, f6⟩ := E6
  have c7 : Steps p.tables e below (s₁.setTop (entryFrame m #[.ref b, .int (Int32.ofNat o), .int (Int32.ofNat len)] 6)) (T6.setTop (mkF m 12 #[.val (.ref b), .val (.int (Int32.ofNat o)), .val (.int (Int32.ofNat len)), .val (.ref s.heap.size), .unset, .unset] [.int (Int32.ofNat len)])) := g6
  have c8 : Steps p.tables e below (s₁.setTop (entryFrame m #[.ref b, .int (Int32.ofNat o), .int (Int32.ofNat len)] 6)) (T6.setTop (mkF m 58 #[.val (.ref b), .val (.int (Int32.ofNat o)), .val (.int (Int32.ofNat len)), .val (.ref s.heap.size), .val (.int (Int32.ofNat len)), .unset] [.ref s.heap.size])) := c7.trans (by
    refine XS.istore X6.here hexec rfl (hb hbytes d12) rfl rfl ?_
    refine XS.iload X6.here hexec rfl (hb hbytes d14) rfl ?_
    refine XS.iloadN X6.here hexec rfl (hb hbytes d16) rfl ?_
    refine XS.icmpYes X6.here hexec rfl (pc0 := 17) rfl (hb hbytes d17) rfl (ii_eq_t rfl) (by decide) rfl ?_
    refine XS.aloadN X6.here hexec rfl (hb hbytes d57) rfl rfl ?_
    exact Steps.refl _)
  have X8 := X6.wide (L' := []) (cells' := 1) (slots' := len) (fun x hx hlt => by
    simp only [List.nil_append, copyLocs, List.mem_map, List.mem_range] at hx
    obtain ⟨i, -, rfl⟩ := hx
    exact absurd hlt (Nat.lt_irrefl _)) (Nat.le_refl _) (by omega)
  exact ⟨T6, some (.ref s.heap.size), _, _, _, X8, rfl, rfl, rfl, (fun h => by cases h), ⟨⟨rfl, B6, ba3.like (X3.warmed.alike.symm.trans X6.warmed.alike) p6.1 f6.1 f6.2.1 f6.2.2.1, f6.2.1.trans bv3, by rw [X6.warmed.alike.findClass, f6.1]; exact bf3, by rw [f6.2.2.1, bs3]; simp, fun j hj => by rw [f6.2.2.2 j, if_pos (by omega)]; rfl, kp3.put p6 (Nat.le_refl _)⟩, by rw [p6.2.2, bh3, hh0]; simp⟩, fun fs hl => c8.trans (X8.areturnOut hexec rfl hret rfl (hb hbytes d58) hl)⟩
end Cmp3
namespace CodL
def yN : MethodName := ⟨"java/lang/StringUTF16", "coderFromArrayLen", "([BI)B"⟩
abbrev yB : ByteArray := jdk_52_method_15_code
theorem d0 : decode yB 0 = .ok (.iload_n 1, 1) := by decide +kernel
theorem d1 : decode yB 1 = .ok (.aload_n 0, 1) := by decide +kernel
theorem d2 : decode yB 2 = .ok (.arraylength, 1) := by decide +kernel
theorem d3 : decode yB 3 = .ok (.isub, 1) := by decide +kernel
theorem d4 : decode yB 4 = .ok (.bipush 31, 2) := by decide +kernel
theorem d6 : decode yB 6 = .ok (.iushr, 1) := by decide +kernel
theorem d7 : decode yB 7 = .ok (.i2b, 1) := by decide +kernel
theorem d8 : decode yB 8 = .ok (.ireturn, 1) := by decide +kernel
def site : List Cond := []
def tab : Cond := tabOf yN yB 2 (some .byte) site
def P (d : Addr) (B : Cell) (args : Array Value) (s : State) : Prop := args = #[.ref d, .int (Int32.ofNat B.slots.size)] ∧ Arr .byte d B s
def E (r : Option Value) (s u : State) : Prop := XT.PureE (some (.int 0)) r s u
/-- an array as long as the number of chars: LATIN1 -/
theorem law (l : Launch) (d : Addr) (B : Cell) : Law l yN 2 2 0 0 yB 2 (some .byte) site (P d B) E [] 0 0 := by
  refine Law.of_walk (plainFor_of_name (by decide +kernel)) (by decide +kernel) (by decide +kernel) (by decide) (fun _ _ h => by rw [h.1]; rfl) (fun _ U U' hal hh h => ⟨h.1, h.2.mv hal hh⟩) (fun r U U' V V' h1 hal h2 h => XT.PureE.mv r U U' V V' h1 hal h2 h) ?_
  intro p e s m args below meth c s₁ X0 hexec hbytes hml hret hlk hnm hown hh0 W hP
  obtain ⟨rfl, hB⟩ := hP
  have hB0 := hB.mv X0.warmed.alike hh0
  have c1 : Steps p.tables e below (s₁.setTop (entryFrame m #[.ref d, .int (Int32.ofNat B.slots.size)] 2)) (s₁.setTop (mkF m 0 #[.val (.ref d), .val (.int (Int32.ofNat B.slots.size))] [])) := entry rfl
  have c2 : Steps p.tables e below (s₁.setTop (entryFrame m #[.ref d, .int (Int32.ofNat B.slots.size)] 2)) (s₁.setTop (mkF m 2 #[.val (.ref d), .val (.int (Int32.ofNat B.slots.size))] [.ref d, .int (Int32.ofNat B.slots.size)])) := c1.trans (by
    refine XS.iloadN X0.here hexec rfl (hb hbytes d0) rfl ?_
    refine XS.aloadN X0.here hexec rfl (hb hbytes d1) rfl rfl ?_
    exact Steps.refl _)
  have c3 : Steps p.tables e below (s₁.setTop (entryFrame m #[.ref d, .int (Int32.ofNat B.slots.size)] 2)) (s₁.setTop (mkF m 8 #[.val (.ref d), .val (.int (Int32.ofNat B.slots.size))] [.int (lo8 (ushr (Int32.ofNat B.slots.size - Int32.ofNat B.slots.size) 31))])) := c2.trans (by
    refine X0.alen hexec hB0 rfl rfl (hb hbytes d2) ?_
    refine XS.isub X0.here hexec rfl (hb hbytes d3) rfl ?_
    refine bipushV X0.here hexec rfl 31 (hb hbytes d4) (by decide) ?_
    refine iushr X0.here hexec rfl (hb hbytes d6) rfl ?_
    refine i2b X0.here hexec rfl (hb hbytes d7) rfl ?_
    exact Steps.refl _)
  have e0 : lo8 (ushr (Int32.ofNat B.slots.size - Int32.ofNat B.slots.size) 31) = 0 := by rw [Int32.sub_self]; decide
  rw [e0] at c3
  exact ⟨s₁, some (.int 0), _, _, _, X0, rfl, rfl, rfl, (fun h => by cases h), ⟨rfl, hh0⟩, fun fs hl => c3.trans (X0.ireturnOut hexec hret rfl (Or.inr (Or.inr (Or.inl rfl))) (hb hbytes d8) hl)⟩
end CodL
/-- the String at a is Latin-1 over a new byte[] (the heap's one new cell): the low bytes of the len chars of A from o on; every cell but a is kept -/
def Got (a : Addr) (D : Cell) (fV fC : Field) (A : Cell) (o len : Nat) (r : Option Value) (s u : State) : Prop := r = none ∧ ∃ D' V : Cell, Blank "java/lang/String" a D' u ∧ Same D D' [fV.slot, fC.slot] ∧ D'.slots[fV.slot]? = some (.ref s.heap.size) ∧ D'.slots[fC.slot]? = some (.int 0) ∧ Arr .byte s.heap.size V u ∧ V.vm = .none ∧ u.vm.findClass "[B" = some V.cls ∧ V.slots.size = len ∧ (∀ j, j < len → V.slots[j]? = some (.int (lo8 (cv A (o + j))))) ∧ (∀ (y : Addr) (c : Cell), y ≠ a → s.heap[y]? = some c → u.heap[y]? = some c) ∧ u.heap.size = s.heap.size + 1
theorem Got.mv {a : Addr} {D A : Cell} {fV fC : Field} {o len : Nat} : ∀ r (U U' V V' : State), U'.heap = U.heap → V.vm.Alike V'.vm → V'.heap = V.heap → Got a D fV fC A o len r U V → Got a D fV fC A o len r U' V' :=
  fun r U U' V V' h1 hal h2 ⟨e0, D', X, a1, a2, a3, a4, a5, a6, a7, a8, a9, a10, a11⟩ => ⟨e0, D', X, a1.mv hal h2, a2, by rw [h1]; exact a3, a4, by rw [h1]; exact a5.mv hal h2, a6, by rw [hal.findClass]; exact a7, a8, a9, by rw [h1, h2]; exact a10, by rw [h1, h2]; exact a11⟩
namespace New4
def yN : MethodName := ⟨"java/lang/String", "<init>", "([CIILjava/lang/Void;)V"⟩
abbrev yB : ByteArray := jdk_42_method_149_code
theorem d0 : decode yB 0 = .ok (.aload_n 0, 1) := by decide +kernel
theorem d1 : decode yB 1 = .ok (.invokespecial 1, 3) := by decide +kernel
theorem d4 : decode yB 4 = .ok (.iload_n 3, 1) := by decide +kernel
theorem d5 : decode yB 5 = .ok (.ifCond (.ne) 22, 3) := by decide +kernel
theorem d27 : decode yB 27 = .ok (.getstatic 38, 3) := by decide +kernel
theorem d30 : decode yB 30 = .ok (.ifCond (.eq) 28, 3) := by decide +kernel
theorem d33 : decode yB 33 = .ok (.aload_n 1, 1) := by decide +kernel
theorem d34 : decode yB 34 = .ok (.iload_n 2, 1) := by decide +kernel
theorem d35 : decode yB 35 = .ok (.iload_n 3, 1) := by decide +kernel
theorem d36 : decode yB 36 = .ok (.invokestatic 177, 3) := by decide +kernel
theorem d39 : decode yB 39 = .ok (.astore 5, 2) := by decide +kernel
theorem d41 : decode yB 41 = .ok (.aload_n 0, 1) := by decide +kernel
theorem d42 : decode yB 42 = .ok (.aload 5, 2) := by decide +kernel
theorem d44 : decode yB 44 = .ok (.iload_n 3, 1) := by decide +kernel
theorem d45 : decode yB 45 = .ok (.invokestatic 47, 3) := by decide +kernel
theorem d48 : decode yB 48 = .ok (.putfield 15, 3) := by decide +kernel
theorem d51 : decode yB 51 = .ok (.aload_n 0, 1) := by decide +kernel
theorem d52 : decode yB 52 = .ok (.aload 5, 2) := by decide +kernel
theorem d54 : decode yB 54 = .ok (.putfield 9, 3) := by decide +kernel
theorem d57 : decode yB 57 = .ok (.return_, 1) := by decide +kernel
def site : List Cond := [.fieldLink "java/lang/String" 38 "java/lang/String" "COMPACT_STRINGS" "Z", Cmp3.tab, CodL.tab, .laysFinal "java/lang/String" "java/lang/String" "value" "[B", .fieldLink "java/lang/String" 9 "java/lang/String" "value" "[B", .laysFinal "java/lang/String" "java/lang/String" "coder" "B", .fieldLink "java/lang/String" 15 "java/lang/String" "coder" "B"] ++ objW "java/lang/String" 1 ++ staticW "java/lang/String" 177 Cmp3.yN ++ staticW "java/lang/String" 47 CodL.yN
def tab : Cond := tabOf yN yB 6 none site
def P (a : Addr) (D : Cell) (fV fC : Field) (b : Addr) (A : Cell) (z : Int32) (o len : Nat) (args : Array Value) (s : State) : Prop := args = #[.ref a, .ref b, .int (Int32.ofNat o), .int (Int32.ofNat len), .null] ∧ Blank "java/lang/String" a D s ∧ Found "java/lang/String" "value" "[B" fV s ∧ Found "java/lang/String" "coder" "B" fC s ∧ Ch b A s ∧ StaticIs s "java/lang/String" "COMPACT_STRINGS" "Z" (.int z) ∧ ¬ z = 0 ∧ 0 < len ∧ o + len ≤ A.slots.size ∧ len ≤ 536870912 ∧ ∀ i, i < len → ¬ 255 < cv A (o + i)
def E (a : Addr) (D : Cell) (fV fC : Field) (A : Cell) (o len : Nat) (r : Option Value) (s u : State) : Prop := Got a D fV fC A o len r s u
/-- len > 0, no char of the range above 255: a Latin-1 String of their low bytes -/
theorem law (l : Launch) (a : Addr) (D : Cell) (fV fC : Field) (b : Addr) (A : Cell) (z : Int32) (o len : Nat) : Law l yN 5 4 2 35 yB 6 none site (P a D fV fC b A z o len) (E a D fV fC A o len) [⟨a, fC.slot⟩, ⟨a, fV.slot⟩] 1 len := by
  refine Law.of_walk (plainFor_of_name (by decide +kernel)) (by decide +kernel) (by decide +kernel) (by decide) (fun _ _ h => by rw [h.1]; rfl) (fun _ U U' hal hh h => ⟨h.1, h.2.1.mv hal hh, h.2.2.1.al hal, h.2.2.2.1.al hal, h.2.2.2.2.1.mv hal hh, h.2.2.2.2.2.1.there hal hh, h.2.2.2.2.2.2⟩) (fun r U U' V V' h1 hal h2 h => Got.mv r U U' V V' h1 hal h2 h) ?_
  intro p e s m args below meth c s₁ X0 hexec hbytes hml hret hlk hnm hown hh0 W hP
  obtain ⟨rfl, hB, f1, f2, hA, s1, hz, l0, l1, l2, hp⟩ := hP
  have a31 := hA.1.2.2.2
  have c1 : Steps p.tables e below (s₁.setTop (entryFrame m #[.ref a, .ref b, .int (Int32.ofNat o), .int (Int32.ofNat len), .null] 6)) (s₁.setTop (mkF m 0 #[.val (.ref a), .val (.ref b), .val (.int (Int32.ofNat o)), .val (.int (Int32.ofNat len)), .val .null, .unset] [])) := entry rfl
  have c2 : Steps p.tables e below (s₁.setTop (entryFrame m #[.ref a, .ref b, .int (Int32.ofNat o), .int (Int32.ofNat len), .null] 6)) (s₁.setTop (mkF m 1 #[.val (.ref a), .val (.ref b), .val (.int (Int32.ofNat o)), .val (.int (Int32.ofNat len)), .val .null, .unset] [.ref a])) := c1.trans (by
    refine XS.aloadN X0.here hexec rfl (hb hbytes d0) rfl rfl ?_
    exact Steps.refl _)
  obtain ⟨T3, X3, q3, st3⟩ := X0.oinit hexec hown (wks W (objW "java/lang/String" 1)) (g := (mkF m 1 #[.val (.ref a), .val (.ref b), .val (.int (Int32.ofNat o)), .val (.int (Int32.ofNat len)), .val .null, .unset] [.ref a])) rfl (by rw [hml]; rfl) (rest := []) rfl (hb hbytes d1) (W := 0) (by show 2 * 0 + 0 ≤ _; decide) (Nat.le_of_ble_eq_true rfl) (Nat.le_of_ble_eq_true rfl)
  have hh3 := q3.trans hh0
  have c4 : Steps p.tables e below (s₁.setTop (entryFrame m #[.ref a, .ref b, .int (Int32.ofNat o), .int (Int32.ofNat len), .null] 6)) (T3.setTop (mkF m 27 #[.val (.ref a), .val (.ref b), .val (.int (Int32.ofNat o)), .val (.int (Int32.ofNat len)), .val .null, .unset] [])) := (c2.trans (st3 _ (Steps.refl _))).trans (by
    refine XS.iloadN X3.here hexec rfl (hb hbytes d4) rfl ?_
    refine XS.ifYes X3.here hexec rfl (pc0 := 5) rfl (hb hbytes d5) rfl (i0_ne_t (nz32 (by omega) l0)) (by decide) rfl ?_
    exact Steps.refl _)
  obtain ⟨T5, X5, q5, st5⟩ := X3.sget hexec hown (wk W (.fieldLink "java/lang/String" 38 "java/lang/String" "COMPACT_STRINGS" "Z")) s1 (fun _ _ h => by rw [hh3]; exact h) (g := (mkF m 27 #[.val (.ref a), .val (.ref b), .val (.int (Int32.ofNat o)), .val (.int (Int32.ofNat len)), .val .null, .unset] [])) rfl (hb hbytes d27)
  have hh5 := q5.trans hh3
  have c6 : Steps p.tables e below (s₁.setTop (entryFrame m #[.ref a, .ref b, .int (Int32.ofNat o), .int (Int32.ofNat len), .null] 6)) (T5.setTop (mkF m 30 #[.val (.ref a), .val (.ref b), .val (.int (Int32.ofNat o)), .val (.int (Int32.ofNat len)), .val .null, .unset] [.int z])) := c4.trans (st5 _ (Steps.refl _))
  have c7 : Steps p.tables e below (s₁.setTop (entryFrame m #[.ref a, .ref b, .int (Int32.ofNat o), .int (Int32.ofNat len), .null] 6)) (T5.setTop (mkF m 36 #[.val (.ref a), .val (.ref b), .val (.int (Int32.ofNat o)), .val (.int (Int32.ofNat len)), .val .null, .unset] [.int (Int32.ofNat len), .int (Int32.ofNat o), .ref b])) := c6.trans (by
    refine XS.ifNo X5.here hexec rfl (hb hbytes d30) rfl (i0_eq_f hz) ?_
    refine XS.aloadN X5.here hexec rfl (hb hbytes d33) rfl rfl ?_
    refine XS.iloadN X5.here hexec rfl (hb hbytes d34) rfl ?_
    refine XS.iloadN X5.here hexec rfl (hb hbytes d35) rfl ?_
    exact Steps.refl _)
  obtain ⟨v8, T8, X8, E8, g8⟩ := X5.callS hexec (Cmp3.law l b A o len) hown (wks W (staticW "java/lang/String" 177 Cmp3.yN)) (wk W Cmp3.tab) (W := 0) (Nat.le_of_ble_eq_true rfl) (Nat.le_of_ble_eq_true rfl) (Nat.le_refl _) (by show 0 + len ≤ len; omega) (g := (mkF m 36 #[.val (.ref a), .val (.ref b), .val (.int (Int32.ofNat o)), .val (.int (Int32.ofNat len)), .val .null, .unset] [.int (Int32.ofNat len), .int (Int32.ofNat o), .ref b])) rfl (by rw [hml]; rfl) c7 (argsL := [.ref b, .int (Int32.ofNat o), .int (Int32.ofNat len)]) (rest := []) rfl rfl (by show 2 * 0 + 0 ≤ _; decide) (hb hbytes d36) (⟨rfl, hA.mv X5.warmed.alike hh5, l1, l2, hp⟩)
  obtain ⟨e8, z8⟩ := E8
  obtain ⟨rfl, N, n1, n2, n3, n4, n5, n6⟩ := NewArr.mv _ T5 s _ _ hh5.symm (Vm.Alike.refl _) rfl e8
  rw [hh5] at z8
  have hB1 := hB.keep X8.warmed.alike (n6 _ _ hB.1)
  have hne : s.heap.size ≠ a := (Nat.ne_of_lt (Array.getElem?_eq_some_iff.mp hB.1).1).symm
  have c9 : Steps p.tables e below (s₁.setTop (entryFrame m #[.ref a, .ref b, .int (Int32.ofNat o), .int (Int32.ofNat len), .null] 6)) (T8.setTop (mkF m 39 #[.val (.ref a), .val (.ref b), .val (.int (Int32.ofNat o)), .val (.int (Int32.ofNat len)), .val .null, .unset] [.ref s.heap.size])) := g8
  have c10 : Steps p.tables e below (s₁.setTop (entryFrame m #[.ref a, .ref b, .int (Int32.ofNat o), .int (Int32.ofNat len), .null] 6)) (T8.setTop (mkF m 45 #[.val (.ref a), .val (.ref b), .val (.int (Int32.ofNat o)), .val (.int (Int32.ofNat len)), .val .null, .val (.ref s.heap.size)] [.int (Int32.ofNat N.slots.size), .ref s.heap.size, .ref a])) := by
    have hc : Steps p.tables e below (s₁.setTop (entryFrame m #[.ref a, .ref b, .int (Int32.ofNat o), .int (Int32.ofNat len), .null] 6)) (T8.setTop (mkF m 45 #[.val (.ref a), .val (.ref b), .val (.int (Int32.ofNat o)), .val (.int (Int32.ofNat len)), .val .null, .val (.ref s.heap.size)] [.int (Int32.ofNat len), .ref s.heap.size, .ref a])) := c9.trans (by
      refine XS.astore X8.here hexec rfl (hb hbytes d39) rfl rfl rfl ?_
      refine XS.aloadN X8.here hexec rfl (hb hbytes d41) rfl rfl ?_
      refine XS.aload X8.here hexec rfl (hb hbytes d42) rfl rfl ?_
      refine XS.iloadN X8.here hexec rfl (hb hbytes d44) rfl ?_
      exact Steps.refl _)
    rw [n4]; exact hc
  obtain ⟨v11, T11, X11, E11, g11⟩ := X8.callS hexec (CodL.law l s.heap.size N) hown (wks W (staticW "java/lang/String" 47 CodL.yN)) (wk W CodL.tab) (W := 1) (Nat.le_of_ble_eq_true rfl) (Nat.le_of_ble_eq_true rfl) (Nat.le_refl _) (by show 0 + len + 0 ≤ len; omega) (g := (mkF m 45 #[.val (.ref a), .val (.ref b), .val (.int (Int32.ofNat o)), .val (.int (Int32.ofNat len)), .val .null, .val (.ref s.heap.size)] [.int (Int32.ofNat N.slots.size), .ref s.heap.size, .ref a])) rfl (by rw [hml]; rfl) c10 (argsL := [.ref s.heap.size, .int (Int32.ofNat N.slots.size)]) (rest := [.ref a]) rfl rfl (by show 2 * 0 + (1 + 0) ≤ _; decide) (hb hbytes d45) (⟨rfl, n1⟩)
  obtain ⟨rfl, q11⟩ := E11
  have hB11 := hB1.mv (X8.warmed.alike.symm.trans X11.warmed.alike) q11
  have c12 : Steps p.tables e below (s₁.setTop (entryFrame m #[.ref a, .ref b, .int (Int32.ofNat o), .int (Int32.ofNat len), .null] 6)) (T11.setTop (mkF m 48 #[.val (.ref a), .val (.ref b), .val (.int (Int32.ofNat o)), .val (.int (Int32.ofNat len)), .val .null, .val (.ref s.heap.size)] [.int 0, .ref a])) := g11
  obtain ⟨T13, X13, p13, bl13, sl13, st13⟩ := X11.finit hexec hown (wk W (.fieldLink "java/lang/String" 15 "java/lang/String" "coder" "B")) (Or.inr ⟨_, (wk W (.laysFinal "java/lang/String" "java/lang/String" "coder" "B"))⟩) (Or.inl ⟨rfl, hnm⟩) f2 (Or.inl rfl) hB11 (t := .byte) (by decide +kernel) rfl (g := (mkF m 48 #[.val (.ref a), .val (.ref b), .val (.int (Int32.ofNat o)), .val (.int (Int32.ofNat len)), .val .null, .val (.ref s.heap.size)] [.int 0, .ref a])) rfl (rest := []) rfl (hb hbytes d48)
  have c14 : Steps p.tables e below (s₁.setTop (entryFrame m #[.ref a, .ref b, .int (Int32.ofNat o), .int (Int32.ofNat len), .null] 6)) (T13.setTop (mkF m 54 #[.val (.ref a), .val (.ref b), .val (.int (Int32.ofNat o)), .val (.int (Int32.ofNat len)), .val .null, .val (.ref s.heap.size)] [.ref s.heap.size, .ref a])) := (c12.trans (st13 _ (Steps.refl _))).trans (by
    refine XS.aloadN X13.here hexec rfl (hb hbytes d51) rfl rfl ?_
    refine XS.aload X13.here hexec rfl (hb hbytes d52) rfl rfl ?_
    exact Steps.refl _)
  obtain ⟨T15, X15, p15, bl15, sl15, st15⟩ := X13.finit hexec hown (wk W (.fieldLink "java/lang/String" 9 "java/lang/String" "value" "[B")) (Or.inr ⟨_, (wk W (.laysFinal "java/lang/String" "java/lang/String" "value" "[B"))⟩) (Or.inl ⟨rfl, hnm⟩) f1 (Or.inl rfl) bl13 (t := (.array .byte)) (by decide +kernel) rfl (g := (mkF m 54 #[.val (.ref a), .val (.ref b), .val (.int (Int32.ofNat o)), .val (.int (Int32.ofNat len)), .val .null, .val (.ref s.heap.size)] [.ref s.heap.size, .ref a])) rfl (rest := []) rfl (hb hbytes d54)
  have c16 : Steps p.tables e below (s₁.setTop (entryFrame m #[.ref a, .ref b, .int (Int32.ofNat o), .int (Int32.ofNat len), .null] 6)) (T15.setTop (mkF m 57 #[.val (.ref a), .val (.ref b), .val (.int (Int32.ofNat o)), .val (.int (Int32.ofNat len)), .val .null, .val (.ref s.heap.size)] [])) := c14.trans (st15 _ (Steps.refl _))
  have ap := apart (Or.inr ⟨_, (wk W (.laysFinal "java/lang/String" "java/lang/String" "value" "[B"))⟩) (Or.inr ⟨_, (wk W (.laysFinal "java/lang/String" "java/lang/String" "coder" "B"))⟩) f1 f2 (t₁ := .array .byte) (t₂ := .byte) (by decide +kernel) (by decide +kernel) (by decide)
  have al := X8.warmed.alike.symm.trans X15.warmed.alike
  have n7 : T11.heap[s.heap.size]? = some N := by rw [q11]; exact n1.1
  exact ⟨T15, none, _, _, _, X15, by simp, rfl, by omega, (fun _ => rfl), ⟨rfl, _, N, bl15, ((Same.refl D _).set _ (by simp)).set _ (by simp), sl15, (Cell.slots_setSlot_ne _ ap).trans sl13, n1.keep al (p15.other hne (p13.other hne n7)), n2, by rw [al.findClass]; exact n3, n4, n5, fun y c h1 h2 => p15.other h1 (p13.other h1 (by rw [q11]; exact n6 y c h2)), by rw [p15.2.2, p13.2.2, q11]; exact z8⟩, fun fs hl => c16.trans (X15.returnOut hexec hret (hb hbytes d57) hl)⟩
end New4
namespace New1
def yN : MethodName := ⟨"java/lang/String", "<init>", "([C)V"⟩
abbrev yB : ByteArray := jdk_42_method_3_code
theorem d0 : decode yB 0 = .ok (.aload_n 0, 1) := by decide +kernel
theorem d1 : decode yB 1 = .ok (.aload_n 1, 1) := by decide +kernel
theorem d2 : decode yB 2 = .ok (.iconst 0, 1) := by decide +kernel
theorem d3 : decode yB 3 = .ok (.aload_n 1, 1) := by decide +kernel
theorem d4 : decode yB 4 = .ok (.arraylength, 1) := by decide +kernel
theorem d5 : decode yB 5 = .ok (.aconst_null, 1) := by decide +kernel
theorem d6 : decode yB 6 = .ok (.invokespecial 27, 3) := by decide +kernel
theorem d9 : decode yB 9 = .ok (.return_, 1) := by decide +kernel
def site : List Cond := [New4.tab] ++ initW "java/lang/String" 27 New4.yN
def tab : Cond := tabOf yN yB 2 none site
def P (a : Addr) (D : Cell) (fV fC : Field) (b : Addr) (A : Cell) (z : Int32) (args : Array Value) (s : State) : Prop := args = #[.ref a, .ref b] ∧ Blank "java/lang/String" a D s ∧ Found "java/lang/String" "value" "[B" fV s ∧ Found "java/lang/String" "coder" "B" fC s ∧ Ch b A s ∧ StaticIs s "java/lang/String" "COMPACT_STRINGS" "Z" (.int z) ∧ ¬ z = 0 ∧ 0 < A.slots.size ∧ A.slots.size ≤ 536870912 ∧ ∀ i, i < A.slots.size → ¬ 255 < cv A i
def E (a : Addr) (D : Cell) (fV fC : Field) (A : Cell) (r : Option Value) (s u : State) : Prop := Got a D fV fC A 0 A.slots.size r s u
/-- new String(chars), not empty, no char above 255: a Latin-1 String of their low bytes -/
theorem law (l : Launch) (a : Addr) (D : Cell) (fV fC : Field) (b : Addr) (A : Cell) (z : Int32) : Law l yN 2 1 3 52 yB 2 none site (P a D fV fC b A z) (E a D fV fC A) [⟨a, fC.slot⟩, ⟨a, fV.slot⟩] 1 A.slots.size := by
  refine Law.of_walk (plainFor_of_name (by decide +kernel)) (by decide +kernel) (by decide +kernel) (by decide) (fun _ _ h => by rw [h.1]; rfl) (fun _ U U' hal hh h => ⟨h.1, h.2.1.mv hal hh, h.2.2.1.al hal, h.2.2.2.1.al hal, h.2.2.2.2.1.mv hal hh, h.2.2.2.2.2.1.there hal hh, h.2.2.2.2.2.2⟩) (fun r U U' V V' h1 hal h2 h => Got.mv r U U' V V' h1 hal h2 h) ?_
  intro p e s m args below meth c s₁ X0 hexec hbytes hml hret hlk hnm hown hh0 W hP
  obtain ⟨rfl, hB, f1, f2, hA, s1, hz, l0, l2, hp⟩ := hP
  have c1 : Steps p.tables e below (s₁.setTop (entryFrame m #[.ref a, .ref b] 2)) (s₁.setTop (mkF m 0 #[.val (.ref a), .val (.ref b)] [])) := entry rfl
  have c2 : Steps p.tables e below (s₁.setTop (entryFrame m #[.ref a, .ref b] 2)) (s₁.setTop (mkF m 6 #[.val (.ref a), .val (.ref b)] [.null, .int (Int32.ofNat A.slots.size), .int 0, .ref b, .ref a])) := c1.trans (by
    refine XS.aloadN X0.here hexec rfl (hb hbytes d0) rfl rfl ?_
    refine XS.aloadN X0.here hexec rfl (hb hbytes d1) rfl rfl ?_
    refine iconstV X0.here hexec rfl 0 (hb hbytes d2) (by decide) ?_
    refine XS.aloadN X0.here hexec rfl (hb hbytes d3) rfl rfl ?_
    refine X0.alen hexec (hA.1.mv X0.warmed.alike hh0) rfl rfl (hb hbytes d4) ?_
    refine XS.aconstNull X0.here hexec rfl (hb hbytes d5) ?_
    exact Steps.refl _)
  obtain ⟨v3, T3, X3, E3, g3⟩ := X0.callN hexec (New4.law l a D fV fC b A z 0 A.slots.size) rfl hown (wks W (initW "java/lang/String" 27 New4.yN)) (W New4.tab (by simp only [site, List.mem_cons, List.mem_append, true_or, or_true])) (W := 0) (Nat.le_of_ble_eq_true rfl) (Nat.le_of_ble_eq_true rfl) (Nat.le_refl _) (by show 0 + A.slots.size ≤ A.slots.size; omega) (g := (mkF m 6 #[.val (.ref a), .val (.ref b)] [.null, .int (Int32.ofNat A.slots.size), .int (Int32.ofNat 0), .ref b, .ref a])) rfl (by rw [hml]; rfl) c2 (argsL := [.ref b, .int (Int32.ofNat 0), .int (Int32.ofNat A.slots.size), .null]) (rest := []) rfl rfl (by show 2 * 0 + 0 ≤ _; decide) (hb hbytes d6) (⟨rfl, hB.mv X0.warmed.alike hh0, f1.al X0.warmed.alike, f2.al X0.warmed.alike, hA.mv X0.warmed.alike hh0, s1.there X0.warmed.alike hh0, hz, l0, by omega, l2, fun i hi => by rw [Nat.zero_add]; exact hp i hi⟩)
  have e0 := Got.mv _ s₁ s _ _ hh0.symm (Vm.Alike.refl _) rfl E3
  obtain rfl := e0.1
  have c4 : Steps p.tables e below (s₁.setTop (entryFrame m #[.ref a, .ref b] 2)) (T3.setTop (mkF m 9 #[.val (.ref a), .val (.ref b)] [])) := g3
  exact ⟨T3, none, _, _, _, X3, by simp, rfl, by omega, (fun _ => rfl), e0, fun fs hl => c4.trans (X3.returnOut hexec hret (hb hbytes d9) hl)⟩
theorem pays {l : Launch} {R : Room} {p : Program} {e : Env} {below : List Frame} {s : State} {sargs : Array Value} {len W : Nat} (a : Addr) (D : Cell) (fV fC : Field) (b : Addr) (A : Cell) (z : Int32) (htab : tab.before sargs s = true) (hfr : 4 ≤ R.frames) (hlo : W + 65 ≤ R.locals) :
    Back l R p e below s sargs yN len W (fun A₁ a₁ => A₁.cells + 1 ≤ R.cells ∧ A₁.slots + A.slots.size ≤ R.slots ∧ P a D fV fC b A z a₁ A₁.U) (fun A₁ _ v₁ B₁ => E a D fV fC A v₁ A₁.U B₁.U ∧ B₁.locs = A₁.locs ++ [⟨a, fC.slot⟩, ⟨a, fV.slot⟩] ∧ B₁.cells = A₁.cells + 1 ∧ B₁.slots = A₁.slots + A.slots.size) :=
  (law l a D fV fC b A z).pays htab hfr (by omega)
end New1
/-- the byte, read back as charAt reads it, is the char -/
theorem lo8_mask {x : Int32} (h0 : ¬ x < 0) (h1 : ¬ 255 < x) : lo8 x &&& 255 = x := by
  have t : ∀ k : Fin 256, lo8 (Int32.ofNat k.val) &&& 255 = Int32.ofNat k.val := by decide +kernel
  rw [Int32.lt_iff_toInt_lt] at h0 h1
  have e0 : (0 : Int32).toInt = 0 := rfl
  have e1 : (255 : Int32).toInt = 255 := rfl
  obtain ⟨k, hk⟩ : ∃ k : Nat, x.toInt = k := ⟨x.toInt.toNat, by omega⟩
  have hx : x = Int32.ofNat k := Int32.toInt_inj.mp (by rw [hk, Int32.toInt_ofNat_small (by omega)])
  rw [hx]
  exact t ⟨k, by omega⟩
end StrChars
namespace StrChars.Road
open Jvm Sem ClassFile Op Lib Jvm.Stand Jvm.Free Jvm.Free.XT
open Jvm.Lib.Cold (StaticIs)
abbrev ST : String := "java/lang/String"
/-- every table word that New1's law asks, flat -/
abbrev words : List Jvm.Cond := [.code New1.yN New1.yB 2 none, .initialized ST, .methodLink ST 27 New4.yN, .instanceMethod New4.yN,
  .code New4.yN New4.yB 6 none, .fieldLink ST 38 ST "COMPACT_STRINGS" "Z", .laysFinal ST ST "value" "[B", .fieldLink ST 9 ST "value" "[B", .laysFinal ST ST "coder" "B", .fieldLink ST 15 ST "coder" "B",
  .methodLink ST 1 Lib.objectInit, .instanceMethod Lib.objectInit, .code Lib.objectInit ⟨#[0xb1]⟩ 1 none, .methodLink ST 177 Cmp3.yN, .static Cmp3.yN, .methodLink ST 47 CodL.yN, .static CodL.yN,
  .code Cmp3.yN Cmp3.yB 6 (some (.array .byte)), .initialized U16, .arrayClass .byte, .methodLink U16 115 Cmp5.yN, .static Cmp5.yN, .code Cmp5.yN Cmp5.yB 7 (some .int), .code CodL.yN CodL.yB 2 (some .byte)]
theorem tab_of {a : Array Value} {s : State} (h : ∀ w ∈ words, w.before a s = true) : New1.tab.before a s = true := by
  have h5 : Cmp5.tab.before a s = true := unparts (wk h (.code Cmp5.yN Cmp5.yB 7 (some .int))) (wks h (.initialized Cmp5.yN.cls :: Cmp5.site))
  have hc : CodL.tab.before a s = true := unparts (wk h (.code CodL.yN CodL.yB 2 (some .byte))) (wks h (.initialized CodL.yN.cls :: CodL.site))
  have q5 : ∀ w ∈ Cmp5.tab :: words, w.before a s = true := fun w hw => (List.mem_cons.mp hw).elim (fun e => e ▸ h5) (h w)
  have h3 : Cmp3.tab.before a s = true := unparts (wk q5 (.code Cmp3.yN Cmp3.yB 6 (some (.array .byte)))) (wks q5 (.initialized Cmp3.yN.cls :: Cmp3.site))
  have q3 : ∀ w ∈ Cmp3.tab :: CodL.tab :: words, w.before a s = true := fun w hw => (List.mem_cons.mp hw).elim (fun e => e ▸ h3) fun hw => (List.mem_cons.mp hw).elim (fun e => e ▸ hc) (h w)
  have h4 : New4.tab.before a s = true := unparts (wk q3 (.code New4.yN New4.yB 6 none)) (wks q3 (.initialized New4.yN.cls :: New4.site))
  have q4 : ∀ w ∈ New4.tab :: words, w.before a s = true := fun w hw => (List.mem_cons.mp hw).elim (fun e => e ▸ h4) (h w)
  exact unparts (wk q4 (.code New1.yN New1.yB 2 none)) (wks q4 (.initialized New1.yN.cls :: New1.site))
/-- the words ride from the start Z to the walk's own state -/
theorem moved {Z s : State} {a0 args : Array Value} (hZ : Z.Warmed39 s.vm) (hw : ∀ d ∈ words, d.before a0 Z = true) : ∀ d ∈ words, d.before args s = true := fun d hd => by
  have q := hw d hd
  have t : ∀ d ∈ words, d = .arrayClass .byte ∨ (d.onTables && d.keepsFace) = true := by decide +kernel
  rcases t d hd with rfl | t
  · exact RoadKit.mvA hZ q
  · exact RoadKit.mv hZ q t
/-- WHAT COMES BACK, over the tables of the start Z: h the heap at the call, h' behind it -/
def Q (Z : State) (x : Addr) (A : Cell) (h : Heap) (v : Option Value) (h' : Heap) (L : List Loc) : Prop := v = none ∧ (∀ y ∈ L, y.base = x) ∧ RoadKit.Keep h h' [x] ∧ h'.size = h.size + 1 ∧ RoadKit.Exa Z h' x ST ∧ RoadKit.Fld Z h' x ST "value" "[B" (.ref h.size) ∧ RoadKit.Fld Z h' x ST "coder" "B" (.int 0) ∧
  (∃ V : Cell, RoadKit.Arr Z h' h.size V .byte ∧ V.vm = .none ∧ Z.vm.findClass "[B" = some V.cls ∧ V.slots.size = A.slots.size ∧ ∀ j, j < A.slots.size → V.slots[j]? = some (.int (lo8 (cv A j)))) ∧
  ∀ (O n d : String) (w : Value), RoadKit.Fld Z h x O n d w → RoadKit.slotOf Z O n d ≠ RoadKit.slotOf Z ST "value" "[B" → RoadKit.slotOf Z O n d ≠ RoadKit.slotOf Z ST "coder" "B" → RoadKit.Fld Z h' x O n d w
/-- **new String(chars) AT A CALL, IN THE ROAD'S FORM**: for specialBack behind newO: x the fresh String, b the char[] with the cell A -/
theorem back {p : Program} {l : Launch} {e : Env} {R : Room} {s : State} {args : Array Value} {below : List Frame} {len W : Nat} {Z : State} {a0 : Array Value} {h : Heap} (hZ : Z.Warmed39 s.vm) (hw : ∀ d ∈ words, d.before a0 Z = true) {kI : Nat} (wi : (Jvm.Cond.instantiable ST kI).before a0 Z = true)
    {x b : Addr} {A : Cell} {z : Int32} {v0 c0 : Value} (E : RoadKit.Exa Z h x ST) (V : RoadKit.Fld Z h x ST "value" "[B" v0) (C : RoadKit.Fld Z h x ST "coder" "B" c0) (K : RoadKit.Arr Z h b A .char) (hty : Typed .char A) (S : RoadKit.Sta Z h ST "COMPACT_STRINGS" "Z" (.int z)) (hz : ¬ z = 0)
    (l0 : 0 < A.slots.size) (l2 : A.slots.size ≤ 536870912) (hp : ∀ i, i < A.slots.size → ¬ 255 < cv A i) (hfr : 4 ≤ R.frames) (hlo : W + 65 ≤ R.locals) :
    Back l R p e below s args New1.yN len W (fun P a => a = #[.ref x, .ref b] ∧ P.U.heap = h ∧ P.cells + 1 ≤ R.cells ∧ P.slots + A.slots.size ≤ R.slots)
      (fun P _ v B => ∃ L, Q Z x A h v B.U.heap L ∧ B.locs = P.locs ++ L ∧ B.cells = P.cells + 1 ∧ B.slots = P.slots + A.slots.size) := by
  intro m meth c P g ig mk a X hg hsize hdg hW hn hp'
  obtain ⟨rfl, rfl, r1, r2⟩ := hp'
  have al : Z.vm.Alike P.U.vm := hZ.alike.trans X.warmed.alike
  obtain ⟨D, cfV, kV, iV, fV, hD, gV, stV, knV, obV, asV, slV⟩ := id V
  obtain ⟨D', cfC, kC, iC, fC, hD', gC, stC, -, -, asC, slC⟩ := id C
  cases hD.symm.trans hD'
  obtain ⟨D2, kD, e1, e2, e3, e4, e5⟩ := id E
  cases hD.symm.trans e1
  obtain ⟨c2, k2, i1, i2, i3, -⟩ := Cond.instantiable_spec wi
  cases e2.symm.trans i1
  cases e3.symm.trans i2
  obtain ⟨kU, u1, u2⟩ := al.2.2 _ _ e3
  have hB : Blank ST x D P.U := ⟨hD, ⟨knV, fun q hq => by rw [hq] at obV; cases obV⟩, by rw [al.findClass]; exact e2, kU, u1, by rw [u2]; exact i3, by rw [u2]; exact e5 i3⟩
  have F1 : Found ST "value" "[B" fV P.U := ⟨SBG.found_only al ⟨cfV, kV, iV, gV⟩, stV⟩
  have F2 : Found ST "coder" "B" fC P.U := ⟨SBG.found_only al ⟨cfC, kC, iC, gC⟩, stC⟩
  have hA : Ch b A P.U := ⟨⟨K.1, State.isArrayOf_alike al K.2.1, K.2.2, by omega⟩, hty⟩
  have hS : StaticIs P.U ST "COMPACT_STRINGS" "Z" (.int z) := by
    obtain ⟨cfS, iS, kS, fS, st, cS, t1, t2, t3, t4, t5, t6, t7⟩ := S
    exact StaticIs.there (s := { Z with heap := P.U.heap }) ⟨cfS, iS, kS, fS, st, cS, t1, t2, t3, t4, t5, (fun q => by rw [q] at t6; cases t6), t7⟩ al rfl
  obtain ⟨v, B, X', ⟨⟨hv, E', V', q1, q2, q3, q4, q5, q6, q7, q8, q9, q10, q11⟩, hl, hc, hs⟩, st⟩ := New1.pays x D fV fC b A z (tab_of (moved hZ hw)) hfr hlo m meth c P g ig mk _ X hg hsize hdg hW hn ⟨r1, r2, rfl, hB, F1, F2, hA, hS, hz, l0, l2, hp⟩
  have al' : Z.vm.Alike B.U.vm := hZ.alike.trans X'.warmed.alike
  have hsz : E'.slots.size = D.slots.size := by
    obtain ⟨-, -, -, kB, w1, w2, w3⟩ := q1
    obtain ⟨kB', y1, y2⟩ := al'.2.2 _ _ e3
    rw [q2.2.1] at w1
    cases w1.symm.trans y1
    rw [w3, e5 i3, y2]
  refine ⟨v, B, X', ⟨_, ⟨hv, ?_, ⟨by omega, fun y cy hy hn' => q10 y cy (by simpa using hn') hy, fun y cy hy => ?_⟩, q11, ⟨E', _, q1.1, by rw [q2.2.1]; exact e2, by rw [q2.2.1]; exact e3, by rw [q2.1]; exact obV, fun _ => by rw [hsz]; exact e5 i3⟩,
    ⟨E', cfV, kV, iV, fV, q1.1, gV, stV, by rw [q2.1]; exact knV, by rw [q2.1]; exact obV, by rw [q2.2.1]; exact asV, q3⟩, ⟨E', cfC, kC, iC, fC, q1.1, gC, stC, by rw [q2.1]; exact knV, by rw [q2.1]; exact obV, by rw [q2.2.1]; exact asC, q4⟩,
    ⟨V', ⟨q5.1, State.isArrayOf_alike al'.symm q5.2.1, q5.2.2.1⟩, q6, by rw [← al'.findClass]; exact q7, q8, fun j hj => by have := q9 j hj; rwa [Nat.zero_add] at this⟩, fun O n d w F n1 n2 => ?_⟩, hl, hc, hs⟩, st⟩
  · intro y hy
    simp only [List.mem_cons, List.not_mem_nil, or_false] at hy
    rcases hy with rfl | rfl <;> rfl
  · by_cases q : y = x
    · subst q
      cases hD.symm.trans hy
      exact ⟨E', q1.1, q2.2.1, q2.1, hsz⟩
    · exact ⟨cy, q10 y cy q hy, rfl, rfl, rfl⟩
  · obtain ⟨D3, cf, k, i, f, g1, g2, g3, g4, g5, g6, g7⟩ := F
    cases hD.symm.trans g1
    simp only [RoadKit.slotOf, g2, gV, gC, Option.map_some, Option.getD_some] at n1 n2
    exact ⟨E', cf, k, i, f, q1.1, g2, g3, by rw [q2.1]; exact g4, by rw [q2.1]; exact g5, by rw [q2.2.1]; exact g6, by rw [q2.2.2 f.slot (by simp [n1, n2])]; exact g7⟩
end StrChars.Road
namespace StrChars.Road
open Jvm Sem ClassFile Op Lib Jvm.Stand Jvm.Free Jvm.Free.XT
/-- WHAT COMES BACK, the byte[] as a list of values -/
def QA (Z : State) (x : Addr) (zn : Int32) (cs : List Int32) (h : Heap) (v : Option Value) (h' : Heap) (L : List Loc) : Prop := v = none ∧ (∀ y ∈ L, y.base = x) ∧ RoadKit.Keep h h' [x] ∧ h'.size = h.size + 1 ∧ RoadKit.Exa Z h' x ST ∧ RoadKit.Fld Z h' x ST "value" "[B" (.ref h.size) ∧ RoadKit.Fld Z h' x ST "coder" "B" (.int 0) ∧
  (∃ kb, Z.vm.findClass "[B" = some kb ∧ RoadKit.Arv Z h' h.size kb .byte zn (cs.map fun c => .int (lo8 c)) (.int 0)) ∧
  ∀ (O n d : String) (w : Value), RoadKit.Fld Z h x O n d w → RoadKit.slotOf Z O n d ≠ RoadKit.slotOf Z ST "value" "[B" → RoadKit.slotOf Z O n d ≠ RoadKit.slotOf Z ST "coder" "B" → RoadKit.Fld Z h' x O n d w
/-- **new String(chars) AT A CALL, THE ARRAYS AS LISTS**: the char[] at b holds cs, not empty, no char above 255 -/
theorem backArv {p : Program} {l : Launch} {e : Env} {R : Room} {s : State} {args : Array Value} {below : List Frame} {len W : Nat} {Z : State} {a0 : Array Value} {h : Heap} (hZ : Z.Warmed39 s.vm) (hw : ∀ d ∈ words, d.before a0 Z = true) {kI : Nat} (wi : (Jvm.Cond.instantiable ST kI).before a0 Z = true)
    {x b : Addr} {k : ClassId} {zn z : Int32} {cs : List Int32} {dv v0 c0 : Value} (E : RoadKit.Exa Z h x ST) (V : RoadKit.Fld Z h x ST "value" "[B" v0) (C : RoadKit.Fld Z h x ST "coder" "B" c0) (K : RoadKit.Arv Z h b k .char zn (cs.map Value.int) dv) (S : RoadKit.Sta Z h ST "COMPACT_STRINGS" "Z" (.int z)) (hz : ¬ z = 0)
    (hlen : zn.toNatClampNeg = cs.length) (h0 : 0 < cs.length) (hbig : cs.length ≤ 536870912) (hall : ∀ c ∈ cs, ¬ 255 < c) (hfr : 4 ≤ R.frames) (hlo : W + 65 ≤ R.locals) :
    Back l R p e below s args New1.yN len W (fun P a => a = #[.ref x, .ref b] ∧ P.U.heap = h ∧ P.cells + 1 ≤ R.cells ∧ P.slots + cs.length ≤ R.slots)
      (fun P _ v B => ∃ L, QA Z x zn cs h v B.U.heap L ∧ B.locs = P.locs ++ L ∧ B.cells = P.cells + 1 ∧ B.slots = P.slots + cs.length) := by
  obtain ⟨A, K1, K2, K3, K4, K5, K6⟩ := K
  have e : A.slots.size = cs.length := K3.trans hlen
  have hat : ∀ (i : Nat) (hi : i < cs.length), A.slots[i]? = some (.int cs[i]) := fun i hi => by rw [K5 i (by omega)]; simp [List.getD_eq_getElem?_getD, hi]
  have hcv : ∀ (i : Nat) (hi : i < cs.length), cv A i = cs[i] := fun i hi => by unfold cv; rw [hat i hi]
  have hty : Typed .char A := fun i v hv => by
    have hi : i < A.slots.size := (Array.getElem?_eq_some_iff.mp hv).1
    have q := K5 i hi
    rw [hv] at q
    rw [Option.some.inj q]
    exact K6 i hi
  refine Back.mono (back hZ hw wi E V C K1 hty S hz (by omega) (by omega) (fun i hi => by rw [hcv i (by omega)]; exact hall _ (List.getElem_mem _)) hfr hlo) (fun P a hp => ⟨hp.1, hp.2.1, hp.2.2.1, by rw [e]; exact hp.2.2.2⟩) (fun P a v B hp hq => ?_)
  obtain ⟨L, ⟨q1, q2, q3, q4, q5, q6, q7, ⟨V', v1, v2, v3, v4, v5⟩, q9⟩, hl, hc, hs⟩ := hq
  refine ⟨L, ⟨q1, q2, q3, q4, q5, q6, q7, ⟨V'.cls, v3, V', v1, rfl, by rw [v4, e, hlen], K4, fun i hi => ?_, fun i hi => ?_⟩, q9⟩, hl, hc, by rw [hs, e]⟩
  · have hi' : i < cs.length := by omega
    rw [v5 i (by omega), hcv i hi']; simp [List.getD_eq_getElem?_getD, hi']
  · have hi' : i < cs.length := by omega
    simp only [List.getD_eq_getElem?_getD, List.getElem?_map, List.getElem?_eq_getElem hi', Option.map_some, Option.getD_some]
    exact fits_lo8 _
end StrChars.Road
namespace StrChars.Road
open Jvm Sem ClassFile Op Lib Jvm.Stand Jvm.Free Jvm.Free.XT
/-- WHAT COMES BACK, in the writer's own shape -/
def QV (Z : State) (x : Addr) (N : Int32) (bs : List Int32) (h : Heap) (n0 : Nat) (v : Option Value) (h' : Heap) (L : List Loc) : Prop := v = none ∧ RoadKit.Fr n0 L ∧ RoadKit.Keep h h' [x] ∧ RoadKit.Exa Z h' x ST ∧ RoadKit.Fld Z h' x ST "coder" "B" (.int 0) ∧
  ∃ (t : Addr) (kb : ClassId), n0 ≤ t ∧ h.size ≤ t ∧ ¬ t = x ∧ RoadKit.Fld Z h' x ST "value" "[B" (.ref t) ∧ RoadKit.Arv Z h' t kb .byte N (bs.map Value.int) (.int 0)
/-- **new String(chars) AT A CALL, FOR THE WRITER**: a char[] of n known ints, each 0 to 255 -/
theorem backV {p : Program} {l : Launch} {e : Env} {R : Room} {s : State} {args : Array Value} {below : List Frame} {len W : Nat} {Z : State} {a0 : Array Value} {h : Heap} (hZ : Z.Warmed39 s.vm) (hw : ∀ d ∈ words, d.before a0 Z = true) {kI : Nat} (wi : (Jvm.Cond.instantiable ST kI).before a0 Z = true)
    {x b : Addr} {kC : ClassId} {cs bs : List Int32} {d v0 c0 : Value} {z N : Int32} {n n0 : Nat} (hx0 : n0 ≤ x) (hh0 : n0 ≤ h.size) (E : RoadKit.Exa Z h x ST) (V : RoadKit.Fld Z h x ST "value" "[B" v0) (C : RoadKit.Fld Z h x ST "coder" "B" c0) (K : RoadKit.Arv Z h b kC .char N (cs.map Value.int) d) (S : RoadKit.Sta Z h ST "COMPACT_STRINGS" "Z" (.int z)) (hz : ¬ z = 0)
    (hn : cs.length = n) (hN : N = Int32.ofNat n) (l0 : 0 < n) (l2 : n ≤ 4000) (hp : ∀ c ∈ cs, ¬ c < 0 ∧ ¬ (255 : Int32) < c) (hb : bs = cs.map (fun c => c.toInt8.toInt32)) (hfr : 4 ≤ R.frames) (hlo : W + 65 ≤ R.locals) :
    Back l R p e below s args (⟨"java/lang/String", "<init>", "([C)V"⟩ : MethodName) len W (fun P a => a = #[.ref x, .ref b] ∧ P.U.heap = h ∧ P.cells + 1 ≤ R.cells ∧ P.slots + n ≤ R.slots)
      (fun P _ v B => ∃ L, QV Z x N bs h n0 v B.U.heap L ∧ B.locs = P.locs ++ L ∧ B.cells = P.cells + 1 ∧ B.slots = P.slots + n) := by
  subst hn hN hb
  refine Back.mono (backArv hZ hw wi E V C K S hz (n32 (by omega)) l0 (by omega) (fun c hc => (hp c hc).2) hfr hlo) (fun P a hp => hp) (fun P a v B hp hq => ?_)
  obtain ⟨L, ⟨q1, q2, q3, q4, q5, q6, q7, ⟨kb, v1, v2⟩, q9⟩, hl, hc, hs⟩ := hq
  exact ⟨L, ⟨q1, fun y hy => by rw [q2 y hy]; exact hx0, q3, q5, q7, h.size, kb, hh0, Nat.le_refl _, Nat.ne_of_gt E.lt, q6, by rw [List.map_map]; exact v2⟩, hl, hc, hs⟩
end StrChars.Road
namespace StrChars
open Jvm Sem ClassFile Op Lib Jvm.Stand Jvm.Free.XT Jvm.Free.ALB Jvm.Free.JM Jvm.Free
open Jvm.Lib.Cold (StaticIs)
def hi8 (x : Int32) : Int32 := lo8 (x >>> ((8 : Int32) &&& 31))
/-- what StringUTF16.getChar makes of two bytes -/
def pairCh (u v : Int32) : Int32 := (((u &&& 255) <<< ((0 : Int32) &&& 31)) ||| ((v &&& 255) <<< ((8 : Int32) &&& 31))).toUInt32.toUInt16.toUInt32.toInt32
theorem shr0 (c : Int32) : c >>> ((0 : Int32) &&& 31) = c := by
  have e : ((0 : Int32) &&& 31) = 0 := by decide
  rw [e]
  apply Int32.toBitVec_inj.mp
  rw [Int32.toBitVec_shiftRight]
  have e1 : ((0 : Int32).toBitVec.smod 32) = 0#32 := by decide
  rw [e1, BitVec.sshiftRight_eq']
  exact BitVec.sshiftRight_zero
theorem lo8_and (x : Int32) : (lo8 x &&& 255).toBitVec.toNat = x.toBitVec.toNat % 256 := by
  have h : (lo8 x).toBitVec = (x.toBitVec.signExtend 8).signExtend 32 := by rw [lo8, Int8.toBitVec_toInt32, Int32.toBitVec_toInt8]
  rw [Int32.toBitVec_and, BitVec.toNat_and, h]
  have e : ((x.toBitVec.signExtend 8).signExtend 32).toNat % 256 = x.toBitVec.toNat % 256 := by
    rw [BitVec.toNat_signExtend]
    have hlt := x.toBitVec.isLt
    simp only [BitVec.toNat_setWidth, BitVec.toNat_signExtend]
    split <;> split <;> omega
  rw [← e]
  exact Nat.and_two_pow_sub_one_eq_mod _ 8
theorem pair_says {c : Int32} (h0 : ¬ c < 0) (h1 : ¬ 65535 < c) : pairCh (lo8 c) (hi8 c) = c := by
  rw [Int32.lt_iff_toInt_lt] at h0 h1
  have e0 : (0 : Int32).toInt = 0 := rfl
  have e1 : (65535 : Int32).toInt = 65535 := rfl
  have hc : c.toInt = c.toBitVec.toNat := by
    have := c.toBitVec.isLt
    have e : c.toInt = c.toBitVec.toInt := rfl
    rw [e] at h0 h1
    rw [e]
    rw [BitVec.toInt_eq_toNat_cond] at h0 h1 ⊢
    split at h0 <;> split <;> omega
  have hn : c.toBitVec.toNat < 65536 := by omega
  have a1 := lo8_and c
  have a2 : (hi8 c &&& 255).toBitVec.toNat = c.toBitVec.toNat / 256 := by
    rw [hi8, lo8_and]
    have e : ((8 : Int32) &&& 31) = 8 := by decide
    rw [e, Int32.toBitVec_shiftRight]
    have e2 : ((8 : Int32).toBitVec.smod 32) = 8#32 := by decide
    rw [e2, BitVec.sshiftRight_eq', BitVec.toNat_sshiftRight_of_msb_false (by rw [BitVec.msb_eq_false_iff_two_mul_lt]; omega)]
    show c.toBitVec.toNat >>> 8 % 256 = _
    rw [Nat.shiftRight_eq_div_pow]
    omega
  unfold pairCh
  apply Int32.toBitVec_inj.mp
  apply BitVec.eq_of_toNat_eq
  have f0 : ((0 : Int32) &&& 31) = 0 := by decide
  have f8 : ((8 : Int32) &&& 31) = 8 := by decide
  rw [f0, f8]
  have g : (((lo8 c &&& 255) <<< (0 : Int32)) ||| ((hi8 c &&& 255) <<< (8 : Int32))).toBitVec.toNat = c.toBitVec.toNat := by
    rw [Int32.toBitVec_or, Int32.toBitVec_shiftLeft, Int32.toBitVec_shiftLeft]
    have s0 : ((0 : Int32).toBitVec.smod 32) = 0#32 := by decide
    have s8 : ((8 : Int32).toBitVec.smod 32) = 8#32 := by decide
    rw [s0, s8, BitVec.toNat_or]
    simp only [BitVec.shiftLeft_eq', BitVec.toNat_shiftLeft, a1, a2]
    show (c.toBitVec.toNat % 256) <<< 0 % 2 ^ 32 ||| (c.toBitVec.toNat / 256) <<< 8 % 2 ^ 32 = _
    rw [Nat.shiftLeft_zero, Nat.mod_eq_of_lt (show c.toBitVec.toNat % 256 < 2 ^ 32 by omega), Nat.mod_eq_of_lt (show (c.toBitVec.toNat / 256) <<< 8 < 2 ^ 32 by rw [Nat.shiftLeft_eq]; omega), Nat.or_comm, ← Nat.shiftLeft_add_eq_or_of_lt (by omega), Nat.shiftLeft_eq]
    omega
  show BitVec.toNat (((((lo8 c &&& 255) <<< (0 : Int32)) ||| ((hi8 c &&& 255) <<< (8 : Int32))).toBitVec.setWidth 16).setWidth 32) = _
  rw [BitVec.toNat_setWidth, BitVec.toNat_setWidth, g]
  omega
end StrChars
namespace StrChars
open Jvm Sem ClassFile Op Lib Jvm.Stand Jvm.Free.XT Jvm.Free.ALB Jvm.Free.JM Jvm.Free
open Jvm.Lib.Cold (StaticIs)
theorem shr1 {n : Nat} (h : 2 * n < 2 ^ 31) : Int32.ofNat (2 * n) >>> ((1 : Int32) &&& 31) = Int32.ofNat n := by
  have e : ((1 : Int32) &&& 31) = 1 := by decide
  rw [e]
  apply Int32.toBitVec_inj.mp
  rw [Int32.toBitVec_shiftRight]
  have e1 : ((1 : Int32).toBitVec.smod 32) = 1#32 := by decide
  have hm : (BitVec.ofNat 32 (2 * n)).toNat = 2 * n := by rw [BitVec.toNat_ofNat, Nat.mod_eq_of_lt (by omega)]
  rw [e1, BitVec.sshiftRight_eq']
  apply BitVec.eq_of_toNat_eq
  show ((BitVec.ofNat 32 (2 * n)).sshiftRight 1).toNat = (BitVec.ofNat 32 n).toNat
  rw [BitVec.toNat_sshiftRight_of_msb_false (by rw [BitVec.msb_eq_false_iff_two_mul_lt, hm]; omega), hm, BitVec.toNat_ofNat, Nat.shiftRight_eq_div_pow]
  omega
/-- charAt's cast of a byte read back -/
def chr8 (u : Int32) : Int32 := (u &&& 255).toUInt32.toUInt16.toUInt32.toInt32
theorem chr8_lo8 {c : Int32} (h0 : ¬ c < 0) (h1 : ¬ 255 < c) : chr8 (lo8 c) = c := by
  have t : ∀ k : Fin 256, (Int32.ofNat k.val).toUInt32.toUInt16.toUInt32.toInt32 = Int32.ofNat k.val := by decide +kernel
  unfold chr8
  rw [lo8_mask h0 h1]
  rw [Int32.lt_iff_toInt_lt] at h0 h1
  have e0 : (0 : Int32).toInt = 0 := rfl
  have e1 : (255 : Int32).toInt = 255 := rfl
  obtain ⟨k, hk⟩ : ∃ k : Nat, c.toInt = k := ⟨c.toInt.toNat, by omega⟩
  have hx : c = Int32.ofNat k := Int32.toInt_inj.mp (by rw [hk, Int32.toInt_ofNat_small (by omega)])
  rw [hx]
  exact t ⟨k, by omega⟩
theorem narrow_ch {c : Int32} (h0 : ¬ c < 0) (h1 : ¬ 65535 < c) : narrow .char (.int c) = .int c := by
  have q : narrow .char (.int (pairCh (lo8 c) (hi8 c))) = .int (pairCh (lo8 c) (hi8 c)) := narrow_c _
  rwa [pair_says h0 h1] at q
/-- the array's cell V codes the n chars f 0 .. f (n - 1) by the coder cd, as the JDK does: coder 1 just where some char is above 255 -/
def Cod (cd : Int32) (n : Nat) (f : Nat → Int32) (V : Cell) : Prop := (cd = 0 ∧ V.slots.size = n ∧ ∀ j, j < n → V.slots[j]? = some (.int (lo8 (f j))) ∧ ¬ 255 < f j) ∨ (cd = 1 ∧ V.slots.size = 2 * n ∧ (∀ j, j < n → V.slots[2 * j]? = some (.int (lo8 (f j))) ∧ V.slots[2 * j + 1]? = some (.int (hi8 (f j)))) ∧ ∃ j, j < n ∧ 255 < f j)
theorem Cod.cd {cd : Int32} {n : Nat} {f : Nat → Int32} {V : Cell} (h : Cod cd n f V) : cd = 0 ∨ cd = 1 := h.imp (fun q => q.1) fun q => q.1
theorem Cod.len {cd : Int32} {n : Nat} {f : Nat → Int32} {V : Cell} (h : Cod cd n f V) (hs : V.slots.size < 2 ^ 31) : Int32.ofNat V.slots.size >>> (cd &&& 31) = Int32.ofNat n := by
  rcases h with ⟨rfl, h, -⟩ | ⟨rfl, h, -⟩
  · rw [shr0, h]
  · rw [h, shr1 (by omega)]
/-- **x is a String of the n chars f 0 .. f (n - 1)**, Latin-1 or UTF-16; its array at t has the cell V -/
def Txt (x t : Addr) (V : Cell) (cd : Int32) (n : Nat) (f : Nat → Int32) (U : State) : Prop := Exact "java/lang/String" x U ∧ Has x "java/lang/String" "value" "[B" (.ref t) U ∧ Has x "java/lang/String" "coder" "B" (.int cd) U ∧ XT.Arr .byte t V U ∧ Cod cd n f V ∧ ∀ j, j < n → ¬ f j < 0 ∧ ¬ 65535 < f j
theorem Txt.mv {x t : Addr} {V : Cell} {cd : Int32} {n : Nat} {f : Nat → Int32} {U U' : State} (h : Txt x t V cd n f U) (hal : U.vm.Alike U'.vm) (hh : U'.heap = U.heap) : Txt x t V cd n f U' := ⟨h.1.mv hal hh, h.2.1.mv hal hh, h.2.2.1.mv hal hh, h.2.2.2.1.mv hal hh, h.2.2.2.2⟩
namespace Cdr
def yN : MethodName := ⟨"java/lang/String", "coder", "()B"⟩
abbrev yB : ByteArray := jdk_42_method_152_code
theorem d0 : decode yB 0 = .ok (.getstatic 38, 3) := by decide +kernel
theorem d3 : decode yB 3 = .ok (.ifCond (.eq) 10, 3) := by decide +kernel
theorem d6 : decode yB 6 = .ok (.aload_n 0, 1) := by decide +kernel
theorem d7 : decode yB 7 = .ok (.getfield 15, 3) := by decide +kernel
theorem d10 : decode yB 10 = .ok (.goto 4, 3) := by decide +kernel
theorem d14 : decode yB 14 = .ok (.ireturn, 1) := by decide +kernel
def site : List Cond := [.fieldLink "java/lang/String" 38 "java/lang/String" "COMPACT_STRINGS" "Z", .fieldLink "java/lang/String" 15 "java/lang/String" "coder" "B"]
def tab : Cond := tabOf yN yB 1 (some .byte) site
def P (x : Addr) (cd z : Int32) (args : Array Value) (s : State) : Prop := args = #[.ref x] ∧ Has x "java/lang/String" "coder" "B" (.int cd) s ∧ (cd = 0 ∨ cd = 1) ∧ StaticIs s "java/lang/String" "COMPACT_STRINGS" "Z" (.int z) ∧ ¬ z = 0
def E (cd : Int32) (r : Option Value) (s u : State) : Prop := XT.PureE (some (.int cd)) r s u
theorem law (l : Launch) (x : Addr) (cd z : Int32) : Law l yN 1 0 0 0 yB 1 (some .byte) site (P x cd z) (E cd) [] 0 0 := by
  refine Law.of_walk (plainFor_of_name (by decide +kernel)) (by decide +kernel) (by decide +kernel) (by decide) (fun _ _ h => by rw [h.1]; rfl) (fun _ U U' hal hh h => ⟨h.1, h.2.1.mv hal hh, h.2.2.1, h.2.2.2.1.there hal hh, h.2.2.2.2⟩) (fun r U U' V V' h1 hal h2 h => XT.PureE.mv r U U' V V' h1 hal h2 h) ?_
  intro p e s m args below meth c s₁ X0 hexec hbytes hml hret hlk hnm hown hh0 W hP
  obtain ⟨rfl, hx, hc, s1, hz⟩ := hP
  have c1 : Steps p.tables e below (s₁.setTop (entryFrame m #[.ref x] 1)) (s₁.setTop (mkF m 0 #[.val (.ref x)] [])) := entry rfl
  obtain ⟨T2, X2, q2, st2⟩ := X0.sget hexec hown (wk W (.fieldLink "java/lang/String" 38 "java/lang/String" "COMPACT_STRINGS" "Z")) s1 (fun _ _ h => by rw [hh0]; exact h) (g := (mkF m 0 #[.val (.ref x)] [])) rfl (hb hbytes d0)
  have hh2 := q2.trans hh0
  have c3 : Steps p.tables e below (s₁.setTop (entryFrame m #[.ref x] 1)) (T2.setTop (mkF m 7 #[.val (.ref x)] [.ref x])) := (c1.trans (st2 _ (Steps.refl _))).trans (by
    refine XS.ifNo X2.here hexec rfl (hb hbytes d3) rfl (i0_eq_f hz) ?_
    refine XS.aloadN X2.here hexec rfl (hb hbytes d6) rfl rfl ?_
    exact Steps.refl _)
  obtain ⟨T4, X4, q4, st4⟩ := X2.hget hexec hown (wk W (.fieldLink "java/lang/String" 15 "java/lang/String" "coder" "B")) (hx.mv X2.warmed.alike hh2) (g := (mkF m 7 #[.val (.ref x)] [.ref x])) rfl (rest := []) rfl (hb hbytes d7)
  have c5 : Steps p.tables e below (s₁.setTop (entryFrame m #[.ref x] 1)) (T4.setTop (mkF m 14 #[.val (.ref x)] [.int cd])) := (c3.trans (st4 _ (Steps.refl _))).trans (by
    refine XS.goto X4.here hexec rfl (pc0 := 10) rfl (hb hbytes d10) (by decide) rfl ?_
    exact Steps.refl _)
  exact ⟨T4, some (.int cd), _, _, _, X4, rfl, rfl, rfl, (fun h => by cases h), ⟨rfl, q4.trans hh2⟩, fun fs hl => c5.trans (X4.ireturnOut hexec hret (by rcases hc with rfl | rfl <;> rfl) (Or.inr (Or.inr (Or.inl rfl))) (hb hbytes d14) hl)⟩
end Cdr
namespace Len
def yN : MethodName := ⟨"java/lang/String", "length", "()I"⟩
abbrev yB : ByteArray := jdk_42_method_54_code
theorem d0 : decode yB 0 = .ok (.aload_n 0, 1) := by decide +kernel
theorem d1 : decode yB 1 = .ok (.getfield 9, 3) := by decide +kernel
theorem d4 : decode yB 4 = .ok (.arraylength, 1) := by decide +kernel
theorem d5 : decode yB 5 = .ok (.aload_n 0, 1) := by decide +kernel
theorem d6 : decode yB 6 = .ok (.invokevirtual 335, 3) := by decide +kernel
theorem d9 : decode yB 9 = .ok (.ishr, 1) := by decide +kernel
theorem d10 : decode yB 10 = .ok (.ireturn, 1) := by decide +kernel
def site : List Cond := [.fieldLink "java/lang/String" 9 "java/lang/String" "value" "[B", Cdr.tab] ++ virtW "java/lang/String" 335 "java/lang/String" Cdr.yN Cdr.yN
def tab : Cond := tabOf yN yB 1 (some .int) site
def P (x t : Addr) (V : Cell) (cd : Int32) (n : Nat) (f : Nat → Int32) (z : Int32) (args : Array Value) (s : State) : Prop := args = #[.ref x] ∧ Txt x t V cd n f s ∧ StaticIs s "java/lang/String" "COMPACT_STRINGS" "Z" (.int z) ∧ ¬ z = 0
def E (n : Nat) (r : Option Value) (s u : State) : Prop := XT.PureE (some (.int (Int32.ofNat n))) r s u
/-- length() of a String of n chars, in either coding -/
theorem law (l : Launch) (x t : Addr) (V : Cell) (cd : Int32) (n : Nat) (f : Nat → Int32) (z : Int32) : Law l yN 1 0 1 13 yB 1 (some .int) site (P x t V cd n f z) (E n) [] 0 0 := by
  refine Law.of_walk (plainFor_of_name (by decide +kernel)) (by decide +kernel) (by decide +kernel) (by decide) (fun _ _ h => by rw [h.1]; rfl) (fun _ U U' hal hh h => ⟨h.1, h.2.1.mv hal hh, h.2.2.1.there hal hh, h.2.2.2⟩) (fun r U U' V V' h1 hal h2 h => XT.PureE.mv r U U' V V' h1 hal h2 h) ?_
  intro p e s m args below meth c s₁ X0 hexec hbytes hml hret hlk hnm hown hh0 W hP
  obtain ⟨rfl, hx, s1, hz⟩ := hP
  have v31 := hx.2.2.2.1.2.2.2
  have c1 : Steps p.tables e below (s₁.setTop (entryFrame m #[.ref x] 1)) (s₁.setTop (mkF m 1 #[.val (.ref x)] [.ref x])) := Steps.trans (entry rfl) (by
    show Steps p.tables e below (s₁.setTop (mkF m 0 #[.val (.ref x)] [])) _
    refine XS.aloadN X0.here hexec rfl (hb hbytes d0) rfl rfl ?_
    exact Steps.refl _)
  obtain ⟨T2, X2, q2, st2⟩ := X0.hget hexec hown (wk W (.fieldLink "java/lang/String" 9 "java/lang/String" "value" "[B")) (hx.mv X0.warmed.alike hh0).2.1 (g := (mkF m 1 #[.val (.ref x)] [.ref x])) rfl (rest := []) rfl (hb hbytes d1)
  have hh2 := q2.trans hh0
  have hx2 := hx.mv X2.warmed.alike hh2
  have c3 : Steps p.tables e below (s₁.setTop (entryFrame m #[.ref x] 1)) (T2.setTop (mkF m 6 #[.val (.ref x)] [.ref x, .int (Int32.ofNat V.slots.size)])) := (c1.trans (st2 _ (Steps.refl _))).trans (by
    refine X2.alen hexec hx2.2.2.2.1 rfl rfl (hb hbytes d4) ?_
    refine XS.aloadN X2.here hexec rfl (hb hbytes d5) rfl rfl ?_
    exact Steps.refl _)
  obtain ⟨v4, T4, X4, E4, g4⟩ := X2.callV hexec (Cdr.law l x cd z) hown (wks W (virtW "java/lang/String" 335 "java/lang/String" Cdr.yN Cdr.yN)) rfl (by decide) (wk W Cdr.tab) (W := 1) (Nat.le_of_ble_eq_true rfl) (Nat.le_of_ble_eq_true rfl) (Nat.le_refl _) (Nat.le_refl _) (hx2.1.fc X2.warmed.alike) hx2.1.is (g := (mkF m 6 #[.val (.ref x)] [.ref x, .int (Int32.ofNat V.slots.size)])) rfl (by rw [hml]; rfl) c3 (argsL := []) (rest := [.int (Int32.ofNat V.slots.size)]) rfl rfl (by show 2 * 0 + (1 + 0) ≤ _; decide) (hb hbytes d6) (⟨rfl, hx2.2.2.1, hx.2.2.2.2.1.cd, s1.there X2.warmed.alike hh2, hz⟩)
  obtain ⟨rfl, q4⟩ := E4
  have c5 : Steps p.tables e below (s₁.setTop (entryFrame m #[.ref x] 1)) (T4.setTop (mkF m 10 #[.val (.ref x)] [.int (Int32.ofNat V.slots.size >>> (cd &&& 31))])) := Steps.trans g4 (by
    refine ishr X4.here hexec rfl (hb hbytes d9) rfl ?_
    exact Steps.refl _)
  rw [hx.2.2.2.2.1.len v31] at c5
  exact ⟨T4, some (.int (Int32.ofNat n)), _, _, _, X4, rfl, rfl, rfl, (fun h => by cases h), ⟨rfl, q4.trans hh2⟩, fun fs hl => c5.trans (X4.ireturnOut hexec hret rfl (Or.inl rfl) (hb hbytes d10) hl)⟩
theorem pays {l : Launch} {R : Room} {p : Program} {e : Env} {below : List Frame} {s : State} {sargs : Array Value} {len W : Nat} (x t : Addr) (V : Cell) (cd : Int32) (n : Nat) (f : Nat → Int32) (z : Int32) (htab : tab.before sargs s = true) (hfr : 2 ≤ R.frames) (hlo : W + 25 ≤ R.locals) :
    Back l R p e below s sargs yN len W (fun A₁ a₁ => A₁.cells + 0 ≤ R.cells ∧ A₁.slots + 0 ≤ R.slots ∧ P x t V cd n f z a₁ A₁.U) (fun A₁ _ v₁ B₁ => E n v₁ A₁.U B₁.U ∧ B₁.locs = A₁.locs ++ [] ∧ B₁.cells = A₁.cells + 0 ∧ B₁.slots = A₁.slots + 0) :=
  (law l x t V cd n f z).pays htab hfr (by omega)
end Len
namespace IsL
def yN : MethodName := ⟨"java/lang/String", "isLatin1", "()Z"⟩
abbrev yB : ByteArray := jdk_42_method_154_code
theorem d0 : decode yB 0 = .ok (.getstatic 38, 3) := by decide +kernel
theorem d3 : decode yB 3 = .ok (.ifCond (.eq) 14, 3) := by decide +kernel
theorem d6 : decode yB 6 = .ok (.aload_n 0, 1) := by decide +kernel
theorem d7 : decode yB 7 = .ok (.getfield 15, 3) := by decide +kernel
theorem d10 : decode yB 10 = .ok (.ifCond (.ne) 7, 3) := by decide +kernel
theorem d13 : decode yB 13 = .ok (.iconst 1, 1) := by decide +kernel
theorem d14 : decode yB 14 = .ok (.goto 4, 3) := by decide +kernel
theorem d17 : decode yB 17 = .ok (.iconst 0, 1) := by decide +kernel
theorem d18 : decode yB 18 = .ok (.ireturn, 1) := by decide +kernel
def site : List Cond := [.fieldLink "java/lang/String" 38 "java/lang/String" "COMPACT_STRINGS" "Z", .fieldLink "java/lang/String" 15 "java/lang/String" "coder" "B"]
def tab : Cond := tabOf yN yB 1 (some .boolean) site
def P (x : Addr) (cd z : Int32) (args : Array Value) (s : State) : Prop := args = #[.ref x] ∧ Has x "java/lang/String" "coder" "B" (.int cd) s ∧ (cd = 0 ∨ cd = 1) ∧ StaticIs s "java/lang/String" "COMPACT_STRINGS" "Z" (.int z) ∧ ¬ z = 0
def E (cd : Int32) (r : Option Value) (s u : State) : Prop := XT.PureE (some (.int (1 - cd))) r s u
theorem law (l : Launch) (x : Addr) (cd z : Int32) : Law l yN 1 0 0 0 yB 1 (some .boolean) site (P x cd z) (E cd) [] 0 0 := by
  refine Law.of_walk (plainFor_of_name (by decide +kernel)) (by decide +kernel) (by decide +kernel) (by decide) (fun _ _ h => by rw [h.1]; rfl) (fun _ U U' hal hh h => ⟨h.1, h.2.1.mv hal hh, h.2.2.1, h.2.2.2.1.there hal hh, h.2.2.2.2⟩) (fun r U U' V V' h1 hal h2 h => XT.PureE.mv r U U' V V' h1 hal h2 h) ?_
  intro p e s m args below meth c s₁ X0 hexec hbytes hml hret hlk hnm hown hh0 W hP
  obtain ⟨rfl, hx, hc, s1, hz⟩ := hP
  have c1 : Steps p.tables e below (s₁.setTop (entryFrame m #[.ref x] 1)) (s₁.setTop (mkF m 0 #[.val (.ref x)] [])) := entry rfl
  obtain ⟨T2, X2, q2, st2⟩ := X0.sget hexec hown (wk W (.fieldLink "java/lang/String" 38 "java/lang/String" "COMPACT_STRINGS" "Z")) s1 (fun _ _ h => by rw [hh0]; exact h) (g := (mkF m 0 #[.val (.ref x)] [])) rfl (hb hbytes d0)
  have hh2 := q2.trans hh0
  have c3 : Steps p.tables e below (s₁.setTop (entryFrame m #[.ref x] 1)) (T2.setTop (mkF m 7 #[.val (.ref x)] [.ref x])) := (c1.trans (st2 _ (Steps.refl _))).trans (by
    refine XS.ifNo X2.here hexec rfl (hb hbytes d3) rfl (i0_eq_f hz) ?_
    refine XS.aloadN X2.here hexec rfl (hb hbytes d6) rfl rfl ?_
    exact Steps.refl _)
  obtain ⟨T4, X4, q4, st4⟩ := X2.hget hexec hown (wk W (.fieldLink "java/lang/String" 15 "java/lang/String" "coder" "B")) (hx.mv X2.warmed.alike hh2) (g := (mkF m 7 #[.val (.ref x)] [.ref x])) rfl (rest := []) rfl (hb hbytes d7)
  have c5 : Steps p.tables e below (s₁.setTop (entryFrame m #[.ref x] 1)) (T4.setTop (mkF m 10 #[.val (.ref x)] [.int cd])) := c3.trans (st4 _ (Steps.refl _))
  have c6 : Steps p.tables e below (s₁.setTop (entryFrame m #[.ref x] 1)) (T4.setTop (mkF m 18 #[.val (.ref x)] [.int (1 - cd)])) := by
    rcases hc with rfl | rfl
    · exact c5.trans (by
        refine XS.ifNo X4.here hexec rfl (hb hbytes d10) rfl (i0_ne_f rfl) ?_
        refine iconstV X4.here hexec rfl 1 (hb hbytes d13) (by decide) ?_
        refine XS.goto X4.here hexec rfl (pc0 := 14) rfl (hb hbytes d14) (by decide) rfl ?_
        exact Steps.refl _)
    · exact c5.trans (by
        refine XS.ifYes X4.here hexec rfl (pc0 := 10) rfl (hb hbytes d10) rfl (i0_ne_t (by decide)) (by decide) rfl ?_
        refine iconstV X4.here hexec rfl 0 (hb hbytes d17) (by decide) ?_
        exact Steps.refl _)
  exact ⟨T4, some (.int (1 - cd)), _, _, _, X4, rfl, rfl, rfl, (fun h => by cases h), ⟨rfl, q4.trans hh2⟩, fun fs hl => c6.trans (X4.ireturnOut hexec hret (by rcases hc with rfl | rfl <;> rfl) (Or.inr (Or.inl rfl)) (hb hbytes d18) hl)⟩
end IsL
namespace LChA
def yN : MethodName := ⟨"java/lang/StringLatin1", "charAt", "([BI)C"⟩
abbrev yB : ByteArray := jdk_43_method_2_code
theorem d0 : decode yB 0 = .ok (.iload_n 1, 1) := by decide +kernel
theorem d1 : decode yB 1 = .ok (.aload_n 0, 1) := by decide +kernel
theorem d2 : decode yB 2 = .ok (.arraylength, 1) := by decide +kernel
theorem d3 : decode yB 3 = .ok (.invokestatic 9, 3) := by decide +kernel
theorem d6 : decode yB 6 = .ok (.aload_n 0, 1) := by decide +kernel
theorem d7 : decode yB 7 = .ok (.iload_n 1, 1) := by decide +kernel
theorem d8 : decode yB 8 = .ok (.baload, 1) := by decide +kernel
theorem d9 : decode yB 9 = .ok (.sipush 255, 3) := by decide +kernel
theorem d12 : decode yB 12 = .ok (.iand, 1) := by decide +kernel
theorem d13 : decode yB 13 = .ok (.i2c, 1) := by decide +kernel
theorem d14 : decode yB 14 = .ok (.ireturn, 1) := by decide +kernel
def site : List Cond := [JO.Str_checkIndex.tab] ++ staticW "java/lang/StringLatin1" 9 JO.Str_checkIndex.yN
def tab : Cond := tabOf yN yB 2 (some .char) site
def P (t : Addr) (V : Cell) (i : Nat) (u : Int32) (fm : Value) (args : Array Value) (s : State) : Prop := args = #[.ref t, .int (Int32.ofNat i)] ∧ XT.Arr .byte t V s ∧ V.slots[i]? = some (.int u) ∧ (StaticIs s "jdk/internal/util/Preconditions" "SIOOBE_FORMATTER" "Ljava/util/function/BiFunction;" fm ∧ fm.isRef = true)
def E (u : Int32) (r : Option Value) (s w : State) : Prop := XT.PureE (some (.int (chr8 u))) r s w
theorem law (l : Launch) (t : Addr) (V : Cell) (i : Nat) (u : Int32) (fm : Value) : Law l yN 2 2 2 27 yB 2 (some .char) site (P t V i u fm) (E u) [] 0 0 := by
  refine Law.of_walk (plainFor_of_name (by decide +kernel)) (by decide +kernel) (by decide +kernel) (by decide) (fun _ _ h => by rw [h.1]; rfl) (fun _ U U' hal hh h => ⟨h.1, h.2.1.mv hal hh, h.2.2.1, h.2.2.2.1.there hal hh, h.2.2.2.2⟩) (fun r U U' V V' h1 hal h2 h => XT.PureE.mv r U U' V V' h1 hal h2 h) ?_
  intro p e s m args below meth c s₁ X0 hexec hbytes hml hret hlk hnm hown hh0 W hP
  obtain ⟨rfl, hV, hu, s1, rf⟩ := hP
  have v31 := hV.2.2.2
  have hi : i < V.slots.size := (Array.getElem?_eq_some_iff.mp hu).1
  have c1 : Steps p.tables e below (s₁.setTop (entryFrame m #[.ref t, .int (Int32.ofNat i)] 2)) (s₁.setTop (mkF m 0 #[.val (.ref t), .val (.int (Int32.ofNat i))] [])) := entry rfl
  have c2 : Steps p.tables e below (s₁.setTop (entryFrame m #[.ref t, .int (Int32.ofNat i)] 2)) (s₁.setTop (mkF m 3 #[.val (.ref t), .val (.int (Int32.ofNat i))] [.int (Int32.ofNat V.slots.size), .int (Int32.ofNat i)])) := c1.trans (by
    refine XS.iloadN X0.here hexec rfl (hb hbytes d0) rfl ?_
    refine XS.aloadN X0.here hexec rfl (hb hbytes d1) rfl rfl ?_
    refine X0.alen hexec (hV.mv X0.warmed.alike hh0) rfl rfl (hb hbytes d2) ?_
    exact Steps.refl _)
  obtain ⟨v3, T3, X3, E3, g3⟩ := X0.callS hexec (JO.Str_checkIndex.law l (Int32.ofNat i) (Int32.ofNat V.slots.size) fm) hown (wks W (staticW "java/lang/StringLatin1" 9 JO.Str_checkIndex.yN)) (wk W JO.Str_checkIndex.tab) (W := 0) (Nat.le_of_ble_eq_true rfl) (Nat.le_of_ble_eq_true rfl) (Nat.le_refl _) (Nat.le_refl _) (g := (mkF m 3 #[.val (.ref t), .val (.int (Int32.ofNat i))] [.int (Int32.ofNat V.slots.size), .int (Int32.ofNat i)])) rfl (by rw [hml]; rfl) c2 (argsL := [.int (Int32.ofNat i), .int (Int32.ofNat V.slots.size)]) (rest := []) rfl rfl (by show 2 * 0 + 0 ≤ _; decide) (hb hbytes d3) (⟨rfl, rf, s1.there X0.warmed.alike hh0, Int32.ofNat_not_neg (by omega), lt32 v31 hi⟩)
  obtain ⟨rfl, q3⟩ := E3
  have hh3 := q3.trans hh0
  have c4 : Steps p.tables e below (s₁.setTop (entryFrame m #[.ref t, .int (Int32.ofNat i)] 2)) (T3.setTop (mkF m 14 #[.val (.ref t), .val (.int (Int32.ofNat i))] [.int (chr8 u)])) := Steps.trans g3 (by
    refine XS.aloadN X3.here hexec rfl (hb hbytes d6) rfl rfl ?_
    refine XS.iloadN X3.here hexec rfl (hb hbytes d7) rfl ?_
    refine X3.aget hexec (hV.mv X3.warmed.alike hh3) rfl hu rfl rfl (hb hbytes d8) ?_
    refine sipushV X3.here hexec rfl 255 (hb hbytes d9) (by decide) ?_
    refine XS.iand X3.here hexec rfl (hb hbytes d12) rfl ?_
    refine i2c X3.here hexec rfl (hb hbytes d13) rfl ?_
    exact Steps.refl _)
  exact ⟨T3, some (.int (chr8 u)), _, _, _, X3, rfl, rfl, rfl, (fun h => by cases h), ⟨rfl, hh3⟩, fun fs hl => c4.trans (X3.ireturnOut hexec hret (narrow_c _) (Or.inr (Or.inr (Or.inr (Or.inl rfl)))) (hb hbytes d14) hl)⟩
end LChA
end StrChars
namespace StrChars.Road
open Jvm Sem ClassFile Op Lib Jvm.Stand Jvm.Free Jvm.Free.XT
open Jvm.Lib.Cold (StaticIs)
theorem consq {a : Array Value} {s : State} {c : Jvm.Cond} {L : List Jvm.Cond} (h0 : c.before a s = true) (h : ∀ w ∈ L, w.before a s = true) : ∀ w ∈ c :: L, w.before a s = true := fun w hw => (List.mem_cons.mp hw).elim (fun e => e ▸ h0) (h w)
/-- the words of String.length(), either coding -/
abbrev wordsLen : List Jvm.Cond := [.code Len.yN Len.yB 1 (some .int), .initialized ST, .fieldLink ST 9 ST "value" "[B", .fieldLink ST 38 ST "COMPACT_STRINGS" "Z", .fieldLink ST 15 ST "coder" "B", .code Cdr.yN Cdr.yB 1 (some .byte), .methodLink ST 335 Cdr.yN, .declares Cdr.yN, .selects ST Cdr.yN Cdr.yN, .instanceMethod Cdr.yN]
theorem tabLen_of {a : Array Value} {s : State} (h : ∀ w ∈ wordsLen, w.before a s = true) : Len.tab.before a s = true := by
  have hc : Cdr.tab.before a s = true := unparts (wk h (.code Cdr.yN Cdr.yB 1 (some .byte))) (wks h (.initialized Cdr.yN.cls :: Cdr.site))
  have q := consq hc h
  exact unparts (wk q (.code Len.yN Len.yB 1 (some .int))) (wks q (.initialized Len.yN.cls :: Len.site))
theorem movedLen {Z s : State} {a0 args : Array Value} (hZ : Z.Warmed39 s.vm) (hw : ∀ d ∈ wordsLen, d.before a0 Z = true) : ∀ d ∈ wordsLen, d.before args s = true := fun d hd => by
  have q := hw d hd
  have t : ∀ d ∈ wordsLen, d = .arrayClass .byte ∨ (d.onTables && d.keepsFace) = true := by decide +kernel
  rcases t d hd with rfl | t
  · exact RoadKit.mvA hZ q
  · exact RoadKit.mv hZ q t
/-- the bytes of the chars cs, low before high -/
def wideBytes : List Int32 → List Value
  | [] => []
  | c :: cs => .int (lo8 c) :: .int (hi8 c) :: wideBytes cs
theorem wide_lo (d : Value) : ∀ (cs : List Int32) (j : Nat), j < cs.length → (wideBytes cs).getD (2 * j) d = .int (lo8 (cs.getD j 0))
  | [], j, h => absurd h (Nat.not_lt_zero j)
  | c :: cs, 0, _ => rfl
  | c :: cs, j + 1, h => by
    have q := wide_lo d cs j (by simpa using h)
    rw [show 2 * (j + 1) = 2 * j + 1 + 1 from by omega]
    simpa [wideBytes] using q
theorem wide_hi (d : Value) : ∀ (cs : List Int32) (j : Nat), j < cs.length → (wideBytes cs).getD (2 * j + 1) d = .int (hi8 (cs.getD j 0))
  | [], j, h => absurd h (Nat.not_lt_zero j)
  | c :: cs, 0, _ => rfl
  | c :: cs, j + 1, h => by
    have q := wide_hi d cs j (by simpa using h)
    rw [show 2 * (j + 1) + 1 = 2 * j + 1 + 1 + 1 from by omega]
    simpa [wideBytes] using q
theorem low_at (d : Value) (cs : List Int32) (j : Nat) (h : j < cs.length) : (cs.map fun c => Value.int (lo8 c)).getD j d = .int (lo8 (cs.getD j 0)) := by
  simp [List.getD_eq_getElem?_getD, h]
/-- an array of N2 bytes vs codes the chars cs by the coder cd -/
def CodA (cs : List Int32) (cd N2 : Int32) (vs : List Value) : Prop := (cd = 0 ∧ N2 = Int32.ofNat cs.length ∧ vs = (cs.map fun c => Value.int (lo8 c)) ∧ ∀ c ∈ cs, ¬ 255 < c) ∨ (cd = 1 ∧ N2 = Int32.ofNat (2 * cs.length) ∧ vs = wideBytes cs ∧ ∃ c ∈ cs, 255 < c)
theorem CodA.cod {cs : List Int32} {cd N2 : Int32} {vs : List Value} {V : Cell} (h : CodA cs cd N2 vs) (hn : 2 * cs.length < 2 ^ 31) (hs : V.slots.size = N2.toNatClampNeg) (hv : RoadKit.Has V vs (.int 0)) : Cod cd cs.length (fun j => cs.getD j 0) V := by
  rcases h with ⟨rfl, rfl, rfl, h⟩ | ⟨rfl, rfl, rfl, c, hc, hw⟩
  · rw [n32 (by omega)] at hs
    exact Or.inl ⟨rfl, hs, fun j hj => ⟨by rw [hv j (by omega), low_at _ _ _ hj], by
      have e : cs.getD j 0 = cs[j] := by simp [List.getD_eq_getElem?_getD, hj]
      show ¬ 255 < cs.getD j 0
      rw [e]; exact h _ (List.getElem_mem _)⟩⟩
  · rw [n32 (by omega)] at hs
    obtain ⟨j, hj, rfl⟩ := List.getElem_of_mem hc
    exact Or.inr ⟨rfl, hs, fun j hj => ⟨by rw [hv _ (by omega), wide_lo _ _ _ hj], by rw [hv _ (by omega), wide_hi _ _ _ hj]⟩, j, hj, by
      have e : cs.getD j 0 = cs[j] := by simp [List.getD_eq_getElem?_getD, hj]
      show 255 < cs.getD j 0
      rw [e]; exact hw⟩
/-- an object of exactly java/lang/String, its two fields found: as the laws ask it -/
theorem strObj {Z U : State} {a0 : Array Value} {kI : Nat} (wi : (Jvm.Cond.instantiable ST kI).before a0 Z = true) (al : Z.vm.Alike U.vm) {x : Addr} {v0 c0 : Value} (E : RoadKit.Exa Z U.heap x ST) (V : RoadKit.Fld Z U.heap x ST "value" "[B" v0) (C : RoadKit.Fld Z U.heap x ST "coder" "B" c0) :
    ∃ (D : Cell) (fV fC : Field), Blank ST x D U ∧ Found ST "value" "[B" fV U ∧ Found ST "coder" "B" fC U ∧ D.slots[fV.slot]? = some v0 ∧ D.slots[fC.slot]? = some c0 ∧ RoadKit.slotOf Z ST "value" "[B" = fV.slot ∧ RoadKit.slotOf Z ST "coder" "B" = fC.slot := by
  obtain ⟨D, cfV, kV, iV, fV, hD, gV, stV, knV, obV, asV, slV⟩ := V
  obtain ⟨D', cfC, kC, iC, fC, hD', gC, stC, -, -, asC, slC⟩ := C
  cases hD.symm.trans hD'
  obtain ⟨D2, kD, e1, e2, e3, e4, e5⟩ := E
  cases hD.symm.trans e1
  obtain ⟨c2, k2, i1, i2, i3, -⟩ := Cond.instantiable_spec wi
  cases e2.symm.trans i1
  cases e3.symm.trans i2
  obtain ⟨kU, u1, u2⟩ := al.2.2 _ _ e3
  exact ⟨D, fV, fC, ⟨hD, ⟨knV, fun q hq => by rw [hq] at obV; cases obV⟩, by rw [al.findClass]; exact e2, kU, u1, by rw [u2]; exact i3, by rw [u2]; exact e5 i3⟩, ⟨SBG.found_only al ⟨cfV, kV, iV, gV⟩, stV⟩, ⟨SBG.found_only al ⟨cfC, kC, iC, gC⟩, stC⟩, slV, slC, by simp [RoadKit.slotOf, gV], by simp [RoadKit.slotOf, gC]⟩
theorem sta_is {Z U : State} (al : Z.vm.Alike U.vm) {C n d : String} {v : Value} (S : RoadKit.Sta Z U.heap C n d v) : StaticIs U C n d v := by
  obtain ⟨cfS, iS, kS, fS, st, cS, t1, t2, t3, t4, t5, t6, t7⟩ := S
  exact StaticIs.there (s := { Z with heap := U.heap }) ⟨cfS, iS, kS, fS, st, cS, t1, t2, t3, t4, t5, (fun q => by rw [q] at t6; cases t6), t7⟩ al rfl
/-- **length() OF SUCH A STRING** -/
theorem lenW {p : Program} {l : Launch} {e : Env} {R : Room} {s : State} {args : Array Value} {below : List Frame} {len W : Nat} {Z : State} {a0 : Array Value} {h : Heap} (hZ : Z.Warmed39 s.vm) (hw : ∀ d ∈ wordsLen, d.before a0 Z = true) {kI : Nat} (wi : (Jvm.Cond.instantiable ST kI).before a0 Z = true)
    {x t : Addr} {kb : ClassId} {cs : List Int32} {cd N2 z : Int32} {vs : List Value} (E : RoadKit.Exa Z h x ST) (V : RoadKit.Fld Z h x ST "value" "[B" (.ref t)) (C : RoadKit.Fld Z h x ST "coder" "B" (.int cd)) (K : RoadKit.Arv Z h t kb .byte N2 vs (.int 0)) (hc : CodA cs cd N2 vs) (hb : ∀ c ∈ cs, ¬ c < 0 ∧ ¬ (65535 : Int32) < c)
    (S : RoadKit.Sta Z h ST "COMPACT_STRINGS" "Z" (.int z)) (hz : ¬ z = 0) (l2 : cs.length ≤ 4000) (hfr : 2 ≤ R.frames) (hlo : W + 25 ≤ R.locals) :
    Back l R p e below s args (⟨"java/lang/String", "length", "()I"⟩ : MethodName) len W (fun P a => a = #[.ref x] ∧ P.U.heap = h ∧ P.cells + 0 ≤ R.cells ∧ P.slots + 0 ≤ R.slots)
      (fun P _ v B => ∃ L, (v = some (.int (Int32.ofNat cs.length)) ∧ L = [] ∧ B.U.heap = h) ∧ B.locs = P.locs ++ L ∧ B.cells = P.cells + 0 ∧ B.slots = P.slots + 0) := by
  obtain ⟨A, K1, K2, K3, K4, K5, K6⟩ := K
  have hcod := hc.cod (by omega) K3 K5
  intro m meth c P g ig mk a X hg hsize hdg hW hn hp'
  obtain ⟨rfl, rfl, r1, r2⟩ := hp'
  have al : Z.vm.Alike P.U.vm := hZ.alike.trans X.warmed.alike
  obtain ⟨D, fV, fC, hB, F1, F2, g1, g2, -, -⟩ := strObj wi al E V C
  have hx : Txt x t A cd cs.length (fun j => cs.getD j 0) P.U := ⟨⟨_, hB.2.2.1, D, hB.1, rfl, by cases q : D.vm <;> first | rfl | exact absurd q (hB.2.1.2 _)⟩, Has.of hB F1 g1, Has.of hB F2 g2, ⟨K1.1, State.isArrayOf_alike al K1.2.1, K1.2.2, by rcases hcod with ⟨-, q, -⟩ | ⟨-, q, -⟩ <;> omega⟩, hcod, fun j hj => by
    have e : cs.getD j 0 = cs[j] := by simp [List.getD_eq_getElem?_getD, hj]
    show ¬ cs.getD j 0 < 0 ∧ ¬ 65535 < cs.getD j 0
    rw [e]; exact hb _ (List.getElem_mem _)⟩
  obtain ⟨v, B, X', ⟨⟨hv, hh⟩, hl, hk, hs⟩, st⟩ := Len.pays x t A cd cs.length (fun j => cs.getD j 0) z (tabLen_of (movedLen hZ hw)) hfr hlo m meth c P g ig mk _ X hg hsize hdg hW hn ⟨r1, r2, rfl, hx, sta_is al S, hz⟩
  exact ⟨v, B, X', ⟨[], ⟨hv, rfl, hh⟩, hl, hk, hs⟩, st⟩
end StrChars.Road
namespace StrChars.Road
open Jvm Sem ClassFile Op Lib Jvm.Stand Jvm.Free Jvm.Free.XT
open Jvm.Lib.Cold (StaticIs)
/-- the road's facts of a String, as the laws ask it -/
theorem txt_of {Z U : State} {a0 : Array Value} {kI : Nat} (wi : (Jvm.Cond.instantiable ST kI).before a0 Z = true) (al : Z.vm.Alike U.vm) {x t : Addr} {kb : ClassId} {cs : List Int32} {cd N2 : Int32} {vs : List Value} (E : RoadKit.Exa Z U.heap x ST) (V : RoadKit.Fld Z U.heap x ST "value" "[B" (.ref t)) (C : RoadKit.Fld Z U.heap x ST "coder" "B" (.int cd)) (K : RoadKit.Arv Z U.heap t kb .byte N2 vs (.int 0)) (hc : CodA cs cd N2 vs) (hb : ∀ c ∈ cs, ¬ c < 0 ∧ ¬ (65535 : Int32) < c) (l2 : cs.length ≤ 4000) :
    ∃ A, Txt x t A cd cs.length (fun j => cs.getD j 0) U := by
  obtain ⟨A, K1, K2, K3, K4, K5, K6⟩ := K
  have hcod := hc.cod (by omega) K3 K5
  obtain ⟨D, fV, fC, hB, F1, F2, g1, g2, -, -⟩ := strObj wi al E V C
  exact ⟨A, ⟨_, hB.2.2.1, D, hB.1, rfl, by cases q : D.vm <;> first | rfl | exact absurd q (hB.2.1.2 _)⟩, Has.of hB F1 g1, Has.of hB F2 g2, ⟨K1.1, State.isArrayOf_alike al K1.2.1, K1.2.2, by rcases hcod with ⟨-, q, -⟩ | ⟨-, q, -⟩ <;> omega⟩, hcod, fun j hj => by
    have e : cs.getD j 0 = cs[j] := by simp [List.getD_eq_getElem?_getD, hj]
    show ¬ cs.getD j 0 < 0 ∧ ¬ 65535 < cs.getD j 0
    rw [e]; exact hb _ (List.getElem_mem _)⟩
end StrChars.Road
namespace StrChars
open Jvm Sem ClassFile Op Lib Jvm.Stand Jvm.Free.XT Jvm.Free.ALB Jvm.Free.JM Jvm.Free
open Jvm.Lib.Cold (StaticIs)
namespace ChN
def yN : MethodName := ⟨"java/lang/String", "charAt", "(I)C"⟩
abbrev yB : ByteArray := jdk_42_method_56_code
theorem d0 : decode yB 0 = .ok (.aload_n 0, 1) := by decide +kernel
theorem d1 : decode yB 1 = .ok (.invokevirtual 492, 3) := by decide +kernel
theorem d4 : decode yB 4 = .ok (.ifCond (.eq) 12, 3) := by decide +kernel
theorem d7 : decode yB 7 = .ok (.aload_n 0, 1) := by decide +kernel
theorem d8 : decode yB 8 = .ok (.getfield 9, 3) := by decide +kernel
theorem d11 : decode yB 11 = .ok (.iload_n 1, 1) := by decide +kernel
theorem d12 : decode yB 12 = .ok (.invokestatic 495, 3) := by decide +kernel
theorem d15 : decode yB 15 = .ok (.ireturn, 1) := by decide +kernel
def site : List Cond := [.fieldLink "java/lang/String" 9 "java/lang/String" "value" "[B", IsL.tab, LChA.tab] ++ virtW "java/lang/String" 492 "java/lang/String" IsL.yN IsL.yN ++ staticW "java/lang/String" 495 LChA.yN
def tab : Cond := tabOf yN yB 2 (some .char) site
def P (x t : Addr) (V : Cell) (n : Nat) (f : Nat → Int32) (z : Int32) (fm : Value) (i : Nat) (args : Array Value) (s : State) : Prop := args = #[.ref x, .int (Int32.ofNat i)] ∧ Txt x t V 0 n f s ∧ i < n ∧ StaticIs s "java/lang/String" "COMPACT_STRINGS" "Z" (.int z) ∧ ¬ z = 0 ∧ StaticIs s "jdk/internal/util/Preconditions" "SIOOBE_FORMATTER" "Ljava/util/function/BiFunction;" fm ∧ fm.isRef = true
def E (f : Nat → Int32) (i : Nat) (r : Option Value) (s u : State) : Prop := XT.PureE (some (.int (f i))) r s u
/-- charAt(i) of a Latin-1 String of n chars, i < n: f i -/
theorem law (l : Launch) (x t : Addr) (V : Cell) (n : Nat) (f : Nat → Int32) (z : Int32) (fm : Value) (i : Nat) : Law l yN 2 1 3 40 yB 2 (some .char) site (P x t V n f z fm i) (E f i) [] 0 0 := by
  refine Law.of_walk (plainFor_of_name (by decide +kernel)) (by decide +kernel) (by decide +kernel) (by decide) (fun _ _ h => by rw [h.1]; rfl) (fun _ U U' hal hh h => ⟨h.1, h.2.1.mv hal hh, h.2.2.1, h.2.2.2.1.there hal hh, h.2.2.2.2.1, h.2.2.2.2.2.1.there hal hh, h.2.2.2.2.2.2⟩) (fun r U U' V V' h1 hal h2 h => XT.PureE.mv r U U' V V' h1 hal h2 h) ?_
  intro p e s m args below meth c s₁ X0 hexec hbytes hml hret hlk hnm hown hh0 W hP
  obtain ⟨rfl, hx, hi, s1, hz, s3, rf⟩ := hP
  have v31 := hx.2.2.2.1.2.2.2
  have hr := hx.2.2.2.2.2 i hi
  have hx0 := hx.mv X0.warmed.alike hh0
  have c1 : Steps p.tables e below (s₁.setTop (entryFrame m #[.ref x, .int (Int32.ofNat i)] 2)) (s₁.setTop (mkF m 1 #[.val (.ref x), .val (.int (Int32.ofNat i))] [.ref x])) := Steps.trans (entry rfl) (by
    show Steps p.tables e below (s₁.setTop (mkF m 0 #[.val (.ref x), .val (.int (Int32.ofNat i))] [])) _
    refine XS.aloadN X0.here hexec rfl (hb hbytes d0) rfl rfl ?_
    exact Steps.refl _)
  obtain ⟨v2, T2, X2, E2, g2⟩ := X0.callV hexec (IsL.law l x 0 z) hown (wks W (virtW "java/lang/String" 492 "java/lang/String" IsL.yN IsL.yN)) rfl (by decide) (wk W IsL.tab) (W := 0) (Nat.le_of_ble_eq_true rfl) (Nat.le_of_ble_eq_true rfl) (Nat.le_refl _) (Nat.le_refl _) (hx0.1.fc X0.warmed.alike) hx0.1.is (g := (mkF m 1 #[.val (.ref x), .val (.int (Int32.ofNat i))] [.ref x])) rfl (by rw [hml]; rfl) c1 (argsL := []) (rest := []) rfl rfl (by show 2 * 0 + 0 ≤ _; decide) (hb hbytes d1) (⟨rfl, hx0.2.2.1, hx.2.2.2.2.1.cd, s1.there X0.warmed.alike hh0, hz⟩)
  obtain ⟨rfl, q2⟩ := E2
  have hh2 := q2.trans hh0
  have hx2 := hx.mv X2.warmed.alike hh2
  obtain ⟨-, k1, k2⟩ | ⟨k0, -⟩ := hx.2.2.2.2.1
  · have c3 : Steps p.tables e below (s₁.setTop (entryFrame m #[.ref x, .int (Int32.ofNat i)] 2)) (T2.setTop (mkF m 8 #[.val (.ref x), .val (.int (Int32.ofNat i))] [.ref x])) := Steps.trans g2 (by
      refine XS.ifNo X2.here hexec rfl (hb hbytes d4) rfl (i0_eq_f (by decide)) ?_
      refine XS.aloadN X2.here hexec rfl (hb hbytes d7) rfl rfl ?_
      exact Steps.refl _)
    obtain ⟨T4, X4, q4, st4⟩ := X2.hget hexec hown (wk W (.fieldLink "java/lang/String" 9 "java/lang/String" "value" "[B")) hx2.2.1 (g := (mkF m 8 #[.val (.ref x), .val (.int (Int32.ofNat i))] [.ref x])) rfl (rest := []) rfl (hb hbytes d8)
    have hh4 := q4.trans hh2
    have c5 : Steps p.tables e below (s₁.setTop (entryFrame m #[.ref x, .int (Int32.ofNat i)] 2)) (T4.setTop (mkF m 12 #[.val (.ref x), .val (.int (Int32.ofNat i))] [.int (Int32.ofNat i), .ref t])) := (c3.trans (st4 _ (Steps.refl _))).trans (by
      refine XS.iloadN X4.here hexec rfl (hb hbytes d11) rfl ?_
      exact Steps.refl _)
    obtain ⟨v6, T6, X6, E6, g6⟩ := X4.callS hexec (LChA.law l t V i (lo8 (f i)) fm) hown (wks W (staticW "java/lang/String" 495 LChA.yN)) (wk W LChA.tab) (W := 0) (Nat.le_of_ble_eq_true rfl) (Nat.le_of_ble_eq_true rfl) (Nat.le_refl _) (Nat.le_refl _) (g := (mkF m 12 #[.val (.ref x), .val (.int (Int32.ofNat i))] [.int (Int32.ofNat i), .ref t])) rfl (by rw [hml]; rfl) c5 (argsL := [.ref t, .int (Int32.ofNat i)]) (rest := []) rfl rfl (by show 2 * 0 + 0 ≤ _; decide) (hb hbytes d12) (⟨rfl, hx.2.2.2.1.mv X4.warmed.alike hh4, (k2 i hi).1, s3.there X4.warmed.alike hh4, rf⟩)
    obtain ⟨rfl, q6⟩ := E6
    rw [chr8_lo8 hr.1 (k2 i hi).2] at g6
    exact ⟨T6, some (.int (f i)), _, _, _, X6, rfl, rfl, rfl, (fun h => by cases h), ⟨rfl, q6.trans hh4⟩, fun fs hl => Steps.trans g6 (X6.ireturnOut hexec hret (narrow_ch hr.1 hr.2) (Or.inr (Or.inr (Or.inr (Or.inl rfl)))) (hb hbytes d15) hl)⟩
  · exact absurd k0 (by decide)
theorem pays {l : Launch} {R : Room} {p : Program} {e : Env} {below : List Frame} {s : State} {sargs : Array Value} {len W : Nat} (x t : Addr) (V : Cell) (n : Nat) (f : Nat → Int32) (z : Int32) (fm : Value) (i : Nat) (htab : tab.before sargs s = true) (hfr : 4 ≤ R.frames) (hlo : W + 53 ≤ R.locals) :
    Back l R p e below s sargs yN len W (fun A₁ a₁ => A₁.cells + 0 ≤ R.cells ∧ A₁.slots + 0 ≤ R.slots ∧ P x t V n f z fm i a₁ A₁.U) (fun A₁ _ v₁ B₁ => E f i v₁ A₁.U B₁.U ∧ B₁.locs = A₁.locs ++ [] ∧ B₁.cells = A₁.cells + 0 ∧ B₁.slots = A₁.slots + 0) :=
  (law l x t V n f z fm i).pays htab hfr (by omega)
end ChN
end StrChars
namespace StrChars.Road
open Jvm Sem ClassFile Op Lib Jvm.Stand Jvm.Free Jvm.Free.XT
open Jvm.Lib.Cold (StaticIs)
/-- the words of String.charAt(int), the Latin-1 road alone -/
abbrev wordsChN : List Jvm.Cond := [.code ChN.yN ChN.yB 2 (some .char), .initialized ST, .fieldLink ST 9 ST "value" "[B", .fieldLink ST 38 ST "COMPACT_STRINGS" "Z", .fieldLink ST 15 ST "coder" "B", .code IsL.yN IsL.yB 1 (some .boolean), .methodLink ST 492 IsL.yN, .declares IsL.yN, .selects ST IsL.yN IsL.yN, .instanceMethod IsL.yN,
  .methodLink ST 495 LChA.yN, .static LChA.yN, .code LChA.yN LChA.yB 2 (some .char), .initialized "java/lang/StringLatin1", .methodLink "java/lang/StringLatin1" 9 JO.Str_checkIndex.yN, .static JO.Str_checkIndex.yN, .code JO.Str_checkIndex.yN JO.Str_checkIndex.yB 2 none,
  .fieldLink ST 1053 "jdk/internal/util/Preconditions" "SIOOBE_FORMATTER" "Ljava/util/function/BiFunction;", .methodLink ST 1059 JC.PreCheck.yN, .static JC.PreCheck.yN, .code JC.PreCheck.yN JC.PreCheck.yB 3 (some .int), .initialized "jdk/internal/util/Preconditions"]
theorem tabChN_of {a : Array Value} {s : State} (h : ∀ w ∈ wordsChN, w.before a s = true) : ChN.tab.before a s = true := by
  have hp : JC.PreCheck.tab.before a s = true := unparts (wk h (.code JC.PreCheck.yN JC.PreCheck.yB 3 (some .int))) (wks h (.initialized JC.PreCheck.yN.cls :: JC.PreCheck.site))
  have qk := consq hp h
  have hk : JO.Str_checkIndex.tab.before a s = true := unparts (wk qk (.code JO.Str_checkIndex.yN JO.Str_checkIndex.yB 2 none)) (wks qk (.initialized JO.Str_checkIndex.yN.cls :: JO.Str_checkIndex.site))
  have ql := consq hk h
  have hl : LChA.tab.before a s = true := unparts (wk ql (.code LChA.yN LChA.yB 2 (some .char))) (wks ql (.initialized LChA.yN.cls :: LChA.site))
  have hi : IsL.tab.before a s = true := unparts (wk h (.code IsL.yN IsL.yB 1 (some .boolean))) (wks h (.initialized IsL.yN.cls :: IsL.site))
  have q := consq hi (consq hl h)
  exact unparts (wk q (.code ChN.yN ChN.yB 2 (some .char))) (wks q (.initialized ChN.yN.cls :: ChN.site))
theorem movedChN {Z s : State} {a0 args : Array Value} (hZ : Z.Warmed39 s.vm) (hw : ∀ d ∈ wordsChN, d.before a0 Z = true) : ∀ d ∈ wordsChN, d.before args s = true := fun d hd => by
  have t : ∀ d ∈ wordsChN, (d.onTables && d.keepsFace) = true := by decide +kernel
  exact RoadKit.mv hZ (hw d hd) (t d hd)
/-- **charAt(i) OF A LATIN-1 STRING**, i < n: the char -/
theorem chN {p : Program} {l : Launch} {e : Env} {R : Room} {s : State} {args : Array Value} {below : List Frame} {len W : Nat} {Z : State} {a0 : Array Value} {h : Heap} (hZ : Z.Warmed39 s.vm) (hw : ∀ d ∈ wordsChN, d.before a0 Z = true) {kI : Nat} (wi : (Jvm.Cond.instantiable ST kI).before a0 Z = true)
    {x t : Addr} {kb : ClassId} {cs : List Int32} {N2 z : Int32} {vs : List Value} {fm : Value} {i : Nat} {j : Int32} (E : RoadKit.Exa Z h x ST) (V : RoadKit.Fld Z h x ST "value" "[B" (.ref t)) (C : RoadKit.Fld Z h x ST "coder" "B" (.int 0)) (K : RoadKit.Arv Z h t kb .byte N2 vs (.int 0)) (hc : CodA cs 0 N2 vs) (hb : ∀ c ∈ cs, ¬ c < 0 ∧ ¬ (65535 : Int32) < c)
    (S : RoadKit.Sta Z h ST "COMPACT_STRINGS" "Z" (.int z)) (hz : ¬ z = 0) (F : RoadKit.Sta Z h "jdk/internal/util/Preconditions" "SIOOBE_FORMATTER" "Ljava/util/function/BiFunction;" fm) (rf : fm.isRef = true) (l2 : cs.length ≤ 4000) (hi : i < cs.length) (hj : j = Int32.ofNat i) (hfr : 4 ≤ R.frames) (hlo : W + 53 ≤ R.locals) :
    Back l R p e below s args (⟨"java/lang/String", "charAt", "(I)C"⟩ : MethodName) len W (fun P a => a = #[.ref x, .int j] ∧ P.U.heap = h ∧ P.cells + 0 ≤ R.cells ∧ P.slots + 0 ≤ R.slots)
      (fun P _ v B => ∃ L, (v = some (.int (cs.getD i 0)) ∧ L = [] ∧ B.U.heap = h) ∧ B.locs = P.locs ++ L ∧ B.cells = P.cells + 0 ∧ B.slots = P.slots + 0) := by
  subst hj
  intro m meth c P g ig mk a X hg hsize hdg hW hn hp'
  obtain ⟨rfl, rfl, r1, r2⟩ := hp'
  have al : Z.vm.Alike P.U.vm := hZ.alike.trans X.warmed.alike
  obtain ⟨A, hx⟩ := txt_of wi al E V C K hc hb l2
  obtain ⟨v, B, X', ⟨⟨hv, hh⟩, hl, hk, hs⟩, st⟩ := ChN.pays x t A cs.length (fun j => cs.getD j 0) z fm i (tabChN_of (movedChN hZ hw)) hfr hlo m meth c P g ig mk _ X hg hsize hdg hW hn ⟨r1, r2, rfl, hx, hi, sta_is al S, hz, sta_is al F, rf⟩
  exact ⟨v, B, X', ⟨[], ⟨hv, rfl, hh⟩, hl, hk, hs⟩, st⟩
/-- what backV says of its String, as the contracts of this text ask it: cs's low bytes, coder 0 -/
theorem codOf {cs : List Int32} {n : Nat} (hn : cs.length = n) (hb : ∀ c ∈ cs, ¬ 255 < c) : CodA cs 0 (Int32.ofNat n) ((cs.map lo8).map Value.int) := Or.inl ⟨rfl, by rw [hn], by simp [List.map_map, Function.comp_def], hb⟩
end StrChars.Road
end Jvm.Pilot.@@N@@
namespace Jvm.Pilot.@@N@@
open Jvm Jvm.ClassFile Sem Op Lib Jvm.Free Jvm.Stand Jvm.LawKit Jvm.RoadKit Bundle Jvm.Pilot.@@N@@.Jvm.D
/-- what is known of the String constant "" of java/lang/String's own pool: not loaded since the start, or loaded: an empty String -/
def Em (Z : State) (vm : Vm) (h : Heap) : Prop := IB Z vm [] ∨ ∃ (a b : Addr) (k : ClassId), Lit (Z.setVm vm) "java/lang/String" 7 a ∧ Exa Z h a "java/lang/String" ∧ Fld Z h a "java/lang/String" "coder" "B" (.int (0 : Int32)) ∧ Fld Z h a "java/lang/String" "value" "[B" (.ref b) ∧ Arv Z h b k .byte (0 : Int32) (own_bs []) (.int (0 : Int32))
theorem Em.keep {Z : State} {vm : Vm} {h h' : Heap} (M : Em Z vm h) (K : Keep h h' []) : Em Z vm h' := by
  rcases M with I | ⟨a, b, k, L, E, F, G, A⟩
  · exact Or.inl I
  · exact Or.inr ⟨a, b, k, L, E.keep K, F.keep K nin0, G.keep K nin0, A.keep K nin0⟩
theorem Em.keepO {Z : State} {vm : Vm} {h h' : Heap} {x : Addr} {C : String} {n : Nat} {a0 : Array Value} (M : Em Z vm h) (K : Keep h h' [x]) (X : Exa Z h x C) (w : (Cond.instantiable C n).before a0 Z = true) (hC : C ≠ "java/lang/String") : Em Z vm h' := by
  rcases M with I | ⟨a, b, k, L, E, F, G, A⟩
  · exact Or.inl I
  · have q1 : a ≠ x := Ne.symm (X.ne E hC)
    have q2 : b ≠ x := Ne.symm (X.neArv A w)
    exact Or.inr ⟨a, b, k, L, E.keep K, F.keep K (ninS q1 nin0), G.keep K (ninS q1 nin0), A.keep K (ninS q2 nin0)⟩
theorem Em.warm {Z s : State} {vm vm' : Vm} {h : Heap} (M : Em Z vm h) (hW : (s.setVm vm).WarmedH vm') : Em Z vm' h := by
  rcases M with I | ⟨a, b, k, L, r⟩
  · refine Or.inl ?_
    obtain ⟨more, q1, q2⟩ := I
    exact ⟨more, hW.interned_eq.trans q1, q2⟩
  · have L' : Lit (s.setVm vm) "java/lang/String" 7 a := L
    exact Or.inr ⟨a, b, k, L'.stays hW.wide, r⟩
theorem own_emR {Z T : State} {h : Heap} {fs : List Frame} (e : T.heap = h) (q : Em Z T.vm h) : Em Z (T.setFrames fs).vm (T.setFrames fs).heap := by
  show Em Z T.vm T.heap
  rw [e]; exact q
theorem own_backOfE {l : Launch} {R : Room} {p : Program} {e : Env} {below : List Frame} {s Z : State} {args a0 : Array Value} {h : Heap} {y : MethodName} {bytes : ByteArray} {maxL : Nat} {ret : Option FieldType} {rm : Room} {len W : Nat} {as' : Array Value} {Q : Option Value → Heap → List Loc → Prop}
    (hM : MetFree l y (head1 [Jvm.Cond.code y bytes maxL ret] rm) (fun a U => a = as' ∧ Z.Warmed39 U.vm ∧ U.heap = h ∧ Em Z U.vm h) (fun _ _ _ _ _ => True) (fun _ U o U' => ∃ v L, o = .returned v ∧ Q v U'.heap L ∧ ReturnedEndW U o U' L rm.cells rm.slots ∧ Em Z U'.vm U'.heap))
    (hZ : Z.Warmed39 s.vm) (wc : (Jvm.Cond.code y bytes maxL ret).before a0 Z = true) (wz : (Jvm.Cond.initialized y.cls).before a0 Z = true) (hf : rm.frames + 1 ≤ R.frames) (hl : W + (maxL + 11) + rm.locals ≤ R.locals) :
    BackS l R p e below s args y len W (fun A a => a = as' ∧ A.U.heap = h ∧ A.cells + rm.cells ≤ R.cells ∧ A.slots + rm.slots ≤ R.slots ∧ Em Z A.U.vm h)
      (fun A _ v B => ∃ L, (Q v B.U.heap L ∧ Em Z B.U.vm B.U.heap) ∧ B.locs = A.locs ++ L ∧ B.cells = A.cells + rm.cells ∧ B.slots = A.slots + rm.slots) :=
  BackS.of_freeW (bytes := bytes) (maxL := maxL) (ret := ret) (E := fun _ _ o t L k n => k = rm.cells ∧ n = rm.slots ∧ ∃ v, o = .returned v ∧ Q v t.heap L ∧ Em Z t.vm t.heap) hM hf hl
    (fun m meth c A a Y hp => have hU : Z.Warmed39 A.U.vm := wtrans hZ Y.warmed
      ⟨by show (Jvm.Cond.and _ .tt).before a A.U = true; rw [Cond.before_and, mv hU wc]; rfl, mv hU wc, mv hU wz, hp.2.2.1, hp.2.2.2.1⟩)
    (fun m meth c A a g mk Y hp => ⟨hp.1, wtrans hZ Y.warmed, hp.2.1, hp.2.2.2.2⟩) (fun _ _ _ _ _ _ _ _ _ => trivial)
    (fun _ _ _ _ ⟨v, L, h1, h2, h3, h4⟩ => ⟨L, _, _, h3, rfl, rfl, v, h1, h2, h4⟩)
    (fun m meth c A a g mk v t L k n Y hp _ _ ⟨e1, e2, v', e3, e4⟩ => by cases e3; subst e1 e2; exact ⟨L, e4, rfl, rfl, rfl⟩)
theorem own_up {cs : List Int32} (h : ∀ c ∈ cs, ¬ c < 0 ∧ ¬ (255 : Int32) < c) : ∀ c ∈ cs, ¬ c < 0 ∧ ¬ (65535 : Int32) < c := fun c hc => ⟨(h c hc).1, fun q => (h c hc).2 (by rw [Int32.lt_iff_toInt_lt] at q ⊢; have e1 : (65535 : Int32).toInt = 65535 := rfl; have e2 : (255 : Int32).toInt = 255 := rfl; omega)⟩
theorem own_rng {c : Int32} (h : ¬ c < 0 ∧ ¬ (255 : Int32) < c) : 0 ≤ c.toInt ∧ c.toInt ≤ 255 := by
  have e1 : (0 : Int32).toInt = 0 := rfl
  have e2 : (255 : Int32).toInt = 255 := rfl
  rw [Int32.lt_iff_toInt_lt, Int32.lt_iff_toInt_lt] at h; omega
theorem own_i2c {c : Int32} (h : ¬ c < 0 ∧ ¬ (255 : Int32) < c) : c.toUInt32.toUInt16.toUInt32.toInt32 = c := by
  have h1 := own_rng h
  have h2 := c_i2c c
  exact Int32.toInt_inj.mp (by omega)
theorem own_len3 (x : Int32) : (x &&& (3 : Int32)) % (3 : Int32) = (0 : Int32) ∨ (x &&& (3 : Int32)) % (3 : Int32) = (1 : Int32) ∨ (x &&& (3 : Int32)) % (3 : Int32) = (2 : Int32) := by
  have h1 := c_and x 3 (by decide)
  have e3 : (3 : Int32).toInt = 3 := rfl
  have e0 : (0 : Int32).toInt = 0 := rfl
  have e1 : (1 : Int32).toInt = 1 := rfl
  have e2 : (2 : Int32).toInt = 2 := rfl
  have h2 := (c_irem (x &&& 3) 3 3 rfl).1 (by omega)
  rw [← Int32.toInt_inj, ← Int32.toInt_inj, ← Int32.toInt_inj]
  omega
theorem own_xor255 (a b : Int32) : ¬ ((a &&& (255 : Int32)) ^^^ (b &&& (255 : Int32))) < 0 ∧ ¬ (255 : Int32) < ((a &&& (255 : Int32)) ^^^ (b &&& (255 : Int32))) := by
  have e : (a &&& (255 : Int32)) ^^^ (b &&& (255 : Int32)) = (a ^^^ b) &&& (255 : Int32) := by
    apply Int32.toBitVec_inj.mp
    simp only [Int32.toBitVec_xor, Int32.toBitVec_and]
    ext i hi
    simp only [BitVec.getElem_xor, BitVec.getElem_and]
    cases a.toBitVec[i] <;> cases b.toBitVec[i] <;> simp
  rw [e]; exact own_b255 _
theorem own_xor0 (a : Int32) : ¬ ((a &&& (255 : Int32)) ^^^ (0 : Int32)) < 0 ∧ ¬ (255 : Int32) < ((a &&& (255 : Int32)) ^^^ (0 : Int32)) := by
  have e : (a &&& (255 : Int32)) ^^^ (0 : Int32) = a &&& (255 : Int32) := by simp
  rw [e]; exact own_b255 _
abbrev own_let (c : Int32) : Prop := (¬ c < (65 : Int32) ∧ ¬ (90 : Int32) < c) ∨ (¬ c < (97 : Int32) ∧ ¬ (122 : Int32) < c)
abbrev own_lat (c : Int32) : Prop := own_let c ∨ (¬ c < (48 : Int32) ∧ ¬ (57 : Int32) < c) ∨ c = (43 : Int32) ∨ c = (45 : Int32) ∨ c = (46 : Int32)
def own_take (n c0 c1 c2 c3 c4 : Int32) : List Int32 := if n = (0 : Int32) then [] else if n = (1 : Int32) then [c0] else if n = (2 : Int32) then [c0, c1] else if n = (3 : Int32) then [c0, c1, c2] else if n = (4 : Int32) then [c0, c1, c2, c3] else [c0, c1, c2, c3, c4]
def own_fin (cs : List Int32) (i : Nat) : Int32 := if 0 < i ∧ i < cs.length ∧ cs.getD i 0 = (58 : Int32) then 1 else 0
def own_scan (cs : List Int32) : Nat → Nat → Int32
  | 0, i => own_fin cs i
  | k + 1, i => if (i = 0 ∧ own_let (cs.getD i 0)) ∨ (¬ i = 0 ∧ own_lat (cs.getD i 0)) then own_scan cs k (i + 1) else own_fin cs i
theorem own_scan_go {cs : List Int32} {k i : Nat} (h : (i = 0 ∧ own_let (cs.getD i 0)) ∨ (¬ i = 0 ∧ own_lat (cs.getD i 0))) : own_scan cs (k + 1) i = own_scan cs k (i + 1) := if_pos h
theorem own_scan_stop {cs : List Int32} {k i : Nat} (h : ¬ ((i = 0 ∧ own_let (cs.getD i 0)) ∨ (¬ i = 0 ∧ own_lat (cs.getD i 0)))) : own_scan cs (k + 1) i = own_fin cs i := if_neg h
theorem own_ofsucc {i : Nat} : Int32.ofNat i + (1 : Int32) = Int32.ofNat (i + 1) := (Int32.ofNat_add i 1).symm
theorem own_ofint {i n : Nat} (h : n ≤ 4000) (hi : i ≤ n) : (Int32.ofNat i).toInt = i := Int32.toInt_ofNat_small (by omega)
theorem own_oflt {i n : Nat} (h : n ≤ 4000) (hi : i < n) : Int32.ofNat i < Int32.ofNat n := by rw [Int32.lt_iff_toInt_lt, own_ofint h (Nat.le_of_lt hi), own_ofint h (Nat.le_refl _)]; omega
theorem own_ofnlt {i n : Nat} (h : n ≤ 4000) (hi : ¬ i < n) (hj : i ≤ n := by omega) : ¬ Int32.ofNat i < Int32.ofNat n := by rw [Int32.lt_iff_toInt_lt, own_ofint h hj, own_ofint h (Nat.le_refl _)]; omega
theorem own_ofne {i n : Nat} (h : n ≤ 4000) (hi : i ≤ n) (h0 : ¬ i = 0) : ¬ Int32.ofNat i = (0 : Int32) := fun q => by
  have := congrArg Int32.toInt q
  rw [own_ofint h hi] at this
  have e : (0 : Int32).toInt = 0 := rfl
  omega
theorem own_ofpos {i n : Nat} (h : n ≤ 4000) (hi : i ≤ n) (h0 : ¬ i = 0) : (0 : Int32) < Int32.ofNat i := by
  rw [Int32.lt_iff_toInt_lt, own_ofint h hi]
  have e : (0 : Int32).toInt = 0 := rfl
  omega
theorem own_len6 (x : Int32) : (x &&& (2147483647 : Int32)) % (6 : Int32) = (0 : Int32) ∨ (x &&& (2147483647 : Int32)) % (6 : Int32) = (1 : Int32) ∨ (x &&& (2147483647 : Int32)) % (6 : Int32) = (2 : Int32) ∨ (x &&& (2147483647 : Int32)) % (6 : Int32) = (3 : Int32) ∨ (x &&& (2147483647 : Int32)) % (6 : Int32) = (4 : Int32) ∨ (x &&& (2147483647 : Int32)) % (6 : Int32) = (5 : Int32) := by
  have h1 := c_and x 2147483647 (by decide)
  have h2 := (c_irem (x &&& 2147483647) 6 6 rfl).1 h1.1
  have e0 : (0 : Int32).toInt = 0 := rfl
  have e1 : (1 : Int32).toInt = 1 := rfl
  have e2 : (2 : Int32).toInt = 2 := rfl
  have e3 : (3 : Int32).toInt = 3 := rfl
  have e4 : (4 : Int32).toInt = 4 := rfl
  have e5 : (5 : Int32).toInt = 5 := rfl
  simp only [← Int32.toInt_inj]
  omega
abbrev own_exp (n c0 c1 c2 c3 c4 : Int32) : Prop := ((0 : Int32) < n ∧ own_let c0) ∧ (((1 : Int32) < n ∧ c1 = (58 : Int32)) ∨ (((1 : Int32) < n ∧ own_lat c1) ∧ (((2 : Int32) < n ∧ c2 = (58 : Int32)) ∨ (((2 : Int32) < n ∧ own_lat c2) ∧ (((3 : Int32) < n ∧ c3 = (58 : Int32)) ∨ (((3 : Int32) < n ∧ own_lat c3) ∧ ((4 : Int32) < n ∧ c4 = (58 : Int32))))))))
theorem own_col {c : Int32} (h : own_lat c) : ¬ c = (58 : Int32) := fun q => by subst q; revert h; decide
theorem own_final0 (c0 c1 c2 c3 c4 : Int32) : own_scan [] 0 0 = if own_exp (0 : Int32) c0 c1 c2 c3 c4 then 1 else 0 := by
  exact (show own_fin [] 0 = 0 from if_neg (fun q => absurd q.2.1 (Nat.lt_irrefl _))).trans (if_neg (fun z0 => (fun z1 => (fun zz => absurd zz (by decide)) z1.1) z0.1)).symm
theorem own_final1 (c0 c1 c2 c3 c4 : Int32) : own_scan [c0] 1 0 = if own_exp (1 : Int32) c0 c1 c2 c3 c4 then 1 else 0 := by
  by_cases a0 : own_let c0
  · refine (own_scan_go (cs := [c0]) (k := 0) (i := 0) (Or.inl ⟨rfl, a0⟩)).trans ?_
    exact (show own_fin [c0] 1 = 0 from if_neg (fun q => absurd q.2.1 (Nat.lt_irrefl _))).trans (if_neg (fun z0 => (fun z1 => z1.elim (fun z2 => (fun zz => absurd zz (by decide)) z2.1) (fun z2 => (fun z3 => (fun zz => absurd zz (by decide)) z3.1) z2.1)) z0.2)).symm
  · refine (own_scan_stop (cs := [c0]) (k := 0) (i := 0) (fun q => q.elim (fun q => a0 q.2) (fun q => q.1 rfl))).trans ?_
    exact (show own_fin [c0] 0 = 0 from if_neg (fun q => absurd q.1 (Nat.lt_irrefl _))).trans (if_neg (fun z0 => (fun z1 => a0 z1.2) z0.1)).symm
theorem own_final2 (c0 c1 c2 c3 c4 : Int32) : own_scan [c0, c1] 2 0 = if own_exp (2 : Int32) c0 c1 c2 c3 c4 then 1 else 0 := by
  by_cases a0 : own_let c0
  · refine (own_scan_go (cs := [c0, c1]) (k := 1) (i := 0) (Or.inl ⟨rfl, a0⟩)).trans ?_
    by_cases a1 : own_lat c1
    · refine (own_scan_go (cs := [c0, c1]) (k := 0) (i := 1) (Or.inr ⟨by decide, a1⟩)).trans ?_
      exact (show own_fin [c0, c1] 2 = 0 from if_neg (fun q => absurd q.2.1 (Nat.lt_irrefl _))).trans (if_neg (fun z0 => (fun z1 => z1.elim (fun z2 => (own_col a1) z2.2) (fun z2 => (fun z3 => z3.elim (fun z4 => (fun zz => absurd zz (by decide)) z4.1) (fun z4 => (fun z5 => (fun zz => absurd zz (by decide)) z5.1) z4.1)) z2.2)) z0.2)).symm
    · refine (own_scan_stop (cs := [c0, c1]) (k := 0) (i := 1) (fun q => q.elim (fun q => absurd q.1 (by decide)) (fun q => a1 q.2))).trans ?_
      by_cases e1 : c1 = (58 : Int32)
      · exact (show own_fin [c0, c1] 1 = 1 from if_pos ⟨by decide, Nat.le_of_ble_eq_true rfl, e1⟩).trans (if_pos ⟨⟨(by decide), a0⟩, (Or.inl ⟨(by decide), e1⟩)⟩).symm
      · exact (show own_fin [c0, c1] 1 = 0 from if_neg (fun q => e1 q.2.2)).trans (if_neg (fun z0 => (fun z1 => z1.elim (fun z2 => e1 z2.2) (fun z2 => (fun z3 => a1 z3.2) z2.1)) z0.2)).symm
  · refine (own_scan_stop (cs := [c0, c1]) (k := 1) (i := 0) (fun q => q.elim (fun q => a0 q.2) (fun q => q.1 rfl))).trans ?_
    exact (show own_fin [c0, c1] 0 = 0 from if_neg (fun q => absurd q.1 (Nat.lt_irrefl _))).trans (if_neg (fun z0 => (fun z1 => a0 z1.2) z0.1)).symm
theorem own_final3 (c0 c1 c2 c3 c4 : Int32) : own_scan [c0, c1, c2] 3 0 = if own_exp (3 : Int32) c0 c1 c2 c3 c4 then 1 else 0 := by
  by_cases a0 : own_let c0
  · refine (own_scan_go (cs := [c0, c1, c2]) (k := 2) (i := 0) (Or.inl ⟨rfl, a0⟩)).trans ?_
    by_cases a1 : own_lat c1
    · refine (own_scan_go (cs := [c0, c1, c2]) (k := 1) (i := 1) (Or.inr ⟨by decide, a1⟩)).trans ?_
      by_cases a2 : own_lat c2
      · refine (own_scan_go (cs := [c0, c1, c2]) (k := 0) (i := 2) (Or.inr ⟨by decide, a2⟩)).trans ?_
        exact (show own_fin [c0, c1, c2] 3 = 0 from if_neg (fun q => absurd q.2.1 (Nat.lt_irrefl _))).trans (if_neg (fun z0 => (fun z1 => z1.elim (fun z2 => (own_col a1) z2.2) (fun z2 => (fun z3 => z3.elim (fun z4 => (own_col a2) z4.2) (fun z4 => (fun z5 => z5.elim (fun z6 => (fun zz => absurd zz (by decide)) z6.1) (fun z6 => (fun z7 => (fun zz => absurd zz (by decide)) z7.1) z6.1)) z4.2)) z2.2)) z0.2)).symm
      · refine (own_scan_stop (cs := [c0, c1, c2]) (k := 0) (i := 2) (fun q => q.elim (fun q => absurd q.1 (by decide)) (fun q => a2 q.2))).trans ?_
        by_cases e2 : c2 = (58 : Int32)
        · exact (show own_fin [c0, c1, c2] 2 = 1 from if_pos ⟨by decide, Nat.le_of_ble_eq_true rfl, e2⟩).trans (if_pos ⟨⟨(by decide), a0⟩, (Or.inr ⟨⟨(by decide), a1⟩, (Or.inl ⟨(by decide), e2⟩)⟩)⟩).symm
        · exact (show own_fin [c0, c1, c2] 2 = 0 from if_neg (fun q => e2 q.2.2)).trans (if_neg (fun z0 => (fun z1 => z1.elim (fun z2 => (own_col a1) z2.2) (fun z2 => (fun z3 => z3.elim (fun z4 => e2 z4.2) (fun z4 => (fun z5 => a2 z5.2) z4.1)) z2.2)) z0.2)).symm
    · refine (own_scan_stop (cs := [c0, c1, c2]) (k := 1) (i := 1) (fun q => q.elim (fun q => absurd q.1 (by decide)) (fun q => a1 q.2))).trans ?_
      by_cases e1 : c1 = (58 : Int32)
      · exact (show own_fin [c0, c1, c2] 1 = 1 from if_pos ⟨by decide, Nat.le_of_ble_eq_true rfl, e1⟩).trans (if_pos ⟨⟨(by decide), a0⟩, (Or.inl ⟨(by decide), e1⟩)⟩).symm
      · exact (show own_fin [c0, c1, c2] 1 = 0 from if_neg (fun q => e1 q.2.2)).trans (if_neg (fun z0 => (fun z1 => z1.elim (fun z2 => e1 z2.2) (fun z2 => (fun z3 => a1 z3.2) z2.1)) z0.2)).symm
  · refine (own_scan_stop (cs := [c0, c1, c2]) (k := 2) (i := 0) (fun q => q.elim (fun q => a0 q.2) (fun q => q.1 rfl))).trans ?_
    exact (show own_fin [c0, c1, c2] 0 = 0 from if_neg (fun q => absurd q.1 (Nat.lt_irrefl _))).trans (if_neg (fun z0 => (fun z1 => a0 z1.2) z0.1)).symm
theorem own_final4 (c0 c1 c2 c3 c4 : Int32) : own_scan [c0, c1, c2, c3] 4 0 = if own_exp (4 : Int32) c0 c1 c2 c3 c4 then 1 else 0 := by
  by_cases a0 : own_let c0
  · refine (own_scan_go (cs := [c0, c1, c2, c3]) (k := 3) (i := 0) (Or.inl ⟨rfl, a0⟩)).trans ?_
    by_cases a1 : own_lat c1
    · refine (own_scan_go (cs := [c0, c1, c2, c3]) (k := 2) (i := 1) (Or.inr ⟨by decide, a1⟩)).trans ?_
      by_cases a2 : own_lat c2
      · refine (own_scan_go (cs := [c0, c1, c2, c3]) (k := 1) (i := 2) (Or.inr ⟨by decide, a2⟩)).trans ?_
        by_cases a3 : own_lat c3
        · refine (own_scan_go (cs := [c0, c1, c2, c3]) (k := 0) (i := 3) (Or.inr ⟨by decide, a3⟩)).trans ?_
          exact (show own_fin [c0, c1, c2, c3] 4 = 0 from if_neg (fun q => absurd q.2.1 (Nat.lt_irrefl _))).trans (if_neg (fun z0 => (fun z1 => z1.elim (fun z2 => (own_col a1) z2.2) (fun z2 => (fun z3 => z3.elim (fun z4 => (own_col a2) z4.2) (fun z4 => (fun z5 => z5.elim (fun z6 => (own_col a3) z6.2) (fun z6 => (fun z7 => (fun zz => absurd zz (by decide)) z7.1) z6.2)) z4.2)) z2.2)) z0.2)).symm
        · refine (own_scan_stop (cs := [c0, c1, c2, c3]) (k := 0) (i := 3) (fun q => q.elim (fun q => absurd q.1 (by decide)) (fun q => a3 q.2))).trans ?_
          by_cases e3 : c3 = (58 : Int32)
          · exact (show own_fin [c0, c1, c2, c3] 3 = 1 from if_pos ⟨by decide, Nat.le_of_ble_eq_true rfl, e3⟩).trans (if_pos ⟨⟨(by decide), a0⟩, (Or.inr ⟨⟨(by decide), a1⟩, (Or.inr ⟨⟨(by decide), a2⟩, (Or.inl ⟨(by decide), e3⟩)⟩)⟩)⟩).symm
          · exact (show own_fin [c0, c1, c2, c3] 3 = 0 from if_neg (fun q => e3 q.2.2)).trans (if_neg (fun z0 => (fun z1 => z1.elim (fun z2 => (own_col a1) z2.2) (fun z2 => (fun z3 => z3.elim (fun z4 => (own_col a2) z4.2) (fun z4 => (fun z5 => z5.elim (fun z6 => e3 z6.2) (fun z6 => (fun z7 => a3 z7.2) z6.1)) z4.2)) z2.2)) z0.2)).symm
      · refine (own_scan_stop (cs := [c0, c1, c2, c3]) (k := 1) (i := 2) (fun q => q.elim (fun q => absurd q.1 (by decide)) (fun q => a2 q.2))).trans ?_
        by_cases e2 : c2 = (58 : Int32)
        · exact (show own_fin [c0, c1, c2, c3] 2 = 1 from if_pos ⟨by decide, Nat.le_of_ble_eq_true rfl, e2⟩).trans (if_pos ⟨⟨(by decide), a0⟩, (Or.inr ⟨⟨(by decide), a1⟩, (Or.inl ⟨(by decide), e2⟩)⟩)⟩).symm
        · exact (show own_fin [c0, c1, c2, c3] 2 = 0 from if_neg (fun q => e2 q.2.2)).trans (if_neg (fun z0 => (fun z1 => z1.elim (fun z2 => (own_col a1) z2.2) (fun z2 => (fun z3 => z3.elim (fun z4 => e2 z4.2) (fun z4 => (fun z5 => a2 z5.2) z4.1)) z2.2)) z0.2)).symm
    · refine (own_scan_stop (cs := [c0, c1, c2, c3]) (k := 2) (i := 1) (fun q => q.elim (fun q => absurd q.1 (by decide)) (fun q => a1 q.2))).trans ?_
      by_cases e1 : c1 = (58 : Int32)
      · exact (show own_fin [c0, c1, c2, c3] 1 = 1 from if_pos ⟨by decide, Nat.le_of_ble_eq_true rfl, e1⟩).trans (if_pos ⟨⟨(by decide), a0⟩, (Or.inl ⟨(by decide), e1⟩)⟩).symm
      · exact (show own_fin [c0, c1, c2, c3] 1 = 0 from if_neg (fun q => e1 q.2.2)).trans (if_neg (fun z0 => (fun z1 => z1.elim (fun z2 => e1 z2.2) (fun z2 => (fun z3 => a1 z3.2) z2.1)) z0.2)).symm
  · refine (own_scan_stop (cs := [c0, c1, c2, c3]) (k := 3) (i := 0) (fun q => q.elim (fun q => a0 q.2) (fun q => q.1 rfl))).trans ?_
    exact (show own_fin [c0, c1, c2, c3] 0 = 0 from if_neg (fun q => absurd q.1 (Nat.lt_irrefl _))).trans (if_neg (fun z0 => (fun z1 => a0 z1.2) z0.1)).symm
theorem own_final5 (c0 c1 c2 c3 c4 : Int32) : own_scan [c0, c1, c2, c3, c4] 5 0 = if own_exp (5 : Int32) c0 c1 c2 c3 c4 then 1 else 0 := by
  by_cases a0 : own_let c0
  · refine (own_scan_go (cs := [c0, c1, c2, c3, c4]) (k := 4) (i := 0) (Or.inl ⟨rfl, a0⟩)).trans ?_
    by_cases a1 : own_lat c1
    · refine (own_scan_go (cs := [c0, c1, c2, c3, c4]) (k := 3) (i := 1) (Or.inr ⟨by decide, a1⟩)).trans ?_
      by_cases a2 : own_lat c2
      · refine (own_scan_go (cs := [c0, c1, c2, c3, c4]) (k := 2) (i := 2) (Or.inr ⟨by decide, a2⟩)).trans ?_
        by_cases a3 : own_lat c3
        · refine (own_scan_go (cs := [c0, c1, c2, c3, c4]) (k := 1) (i := 3) (Or.inr ⟨by decide, a3⟩)).trans ?_
          by_cases a4 : own_lat c4
          · refine (own_scan_go (cs := [c0, c1, c2, c3, c4]) (k := 0) (i := 4) (Or.inr ⟨by decide, a4⟩)).trans ?_
            exact (show own_fin [c0, c1, c2, c3, c4] 5 = 0 from if_neg (fun q => absurd q.2.1 (Nat.lt_irrefl _))).trans (if_neg (fun z0 => (fun z1 => z1.elim (fun z2 => (own_col a1) z2.2) (fun z2 => (fun z3 => z3.elim (fun z4 => (own_col a2) z4.2) (fun z4 => (fun z5 => z5.elim (fun z6 => (own_col a3) z6.2) (fun z6 => (fun z7 => (own_col a4) z7.2) z6.2)) z4.2)) z2.2)) z0.2)).symm
          · refine (own_scan_stop (cs := [c0, c1, c2, c3, c4]) (k := 0) (i := 4) (fun q => q.elim (fun q => absurd q.1 (by decide)) (fun q => a4 q.2))).trans ?_
            by_cases e4 : c4 = (58 : Int32)
            · exact (show own_fin [c0, c1, c2, c3, c4] 4 = 1 from if_pos ⟨by decide, Nat.le_of_ble_eq_true rfl, e4⟩).trans (if_pos ⟨⟨(by decide), a0⟩, (Or.inr ⟨⟨(by decide), a1⟩, (Or.inr ⟨⟨(by decide), a2⟩, (Or.inr ⟨⟨(by decide), a3⟩, ⟨(by decide), e4⟩⟩)⟩)⟩)⟩).symm
            · exact (show own_fin [c0, c1, c2, c3, c4] 4 = 0 from if_neg (fun q => e4 q.2.2)).trans (if_neg (fun z0 => (fun z1 => z1.elim (fun z2 => (own_col a1) z2.2) (fun z2 => (fun z3 => z3.elim (fun z4 => (own_col a2) z4.2) (fun z4 => (fun z5 => z5.elim (fun z6 => (own_col a3) z6.2) (fun z6 => (fun z7 => e4 z7.2) z6.2)) z4.2)) z2.2)) z0.2)).symm
        · refine (own_scan_stop (cs := [c0, c1, c2, c3, c4]) (k := 1) (i := 3) (fun q => q.elim (fun q => absurd q.1 (by decide)) (fun q => a3 q.2))).trans ?_
          by_cases e3 : c3 = (58 : Int32)
          · exact (show own_fin [c0, c1, c2, c3, c4] 3 = 1 from if_pos ⟨by decide, Nat.le_of_ble_eq_true rfl, e3⟩).trans (if_pos ⟨⟨(by decide), a0⟩, (Or.inr ⟨⟨(by decide), a1⟩, (Or.inr ⟨⟨(by decide), a2⟩, (Or.inl ⟨(by decide), e3⟩)⟩)⟩)⟩).symm
          · exact (show own_fin [c0, c1, c2, c3, c4] 3 = 0 from if_neg (fun q => e3 q.2.2)).trans (if_neg (fun z0 => (fun z1 => z1.elim (fun z2 => (own_col a1) z2.2) (fun z2 => (fun z3 => z3.elim (fun z4 => (own_col a2) z4.2) (fun z4 => (fun z5 => z5.elim (fun z6 => e3 z6.2) (fun z6 => (fun z7 => a3 z7.2) z6.1)) z4.2)) z2.2)) z0.2)).symm
      · refine (own_scan_stop (cs := [c0, c1, c2, c3, c4]) (k := 2) (i := 2) (fun q => q.elim (fun q => absurd q.1 (by decide)) (fun q => a2 q.2))).trans ?_
        by_cases e2 : c2 = (58 : Int32)
        · exact (show own_fin [c0, c1, c2, c3, c4] 2 = 1 from if_pos ⟨by decide, Nat.le_of_ble_eq_true rfl, e2⟩).trans (if_pos ⟨⟨(by decide), a0⟩, (Or.inr ⟨⟨(by decide), a1⟩, (Or.inl ⟨(by decide), e2⟩)⟩)⟩).symm
        · exact (show own_fin [c0, c1, c2, c3, c4] 2 = 0 from if_neg (fun q => e2 q.2.2)).trans (if_neg (fun z0 => (fun z1 => z1.elim (fun z2 => (own_col a1) z2.2) (fun z2 => (fun z3 => z3.elim (fun z4 => e2 z4.2) (fun z4 => (fun z5 => a2 z5.2) z4.1)) z2.2)) z0.2)).symm
    · refine (own_scan_stop (cs := [c0, c1, c2, c3, c4]) (k := 3) (i := 1) (fun q => q.elim (fun q => absurd q.1 (by decide)) (fun q => a1 q.2))).trans ?_
      by_cases e1 : c1 = (58 : Int32)
      · exact (show own_fin [c0, c1, c2, c3, c4] 1 = 1 from if_pos ⟨by decide, Nat.le_of_ble_eq_true rfl, e1⟩).trans (if_pos ⟨⟨(by decide), a0⟩, (Or.inl ⟨(by decide), e1⟩)⟩).symm
      · exact (show own_fin [c0, c1, c2, c3, c4] 1 = 0 from if_neg (fun q => e1 q.2.2)).trans (if_neg (fun z0 => (fun z1 => z1.elim (fun z2 => e1 z2.2) (fun z2 => (fun z3 => a1 z3.2) z2.1)) z0.2)).symm
  · refine (own_scan_stop (cs := [c0, c1, c2, c3, c4]) (k := 4) (i := 0) (fun q => q.elim (fun q => a0 q.2) (fun q => q.1 rfl))).trans ?_
    exact (show own_fin [c0, c1, c2, c3, c4] 0 = 0 from if_neg (fun q => absurd q.1 (Nat.lt_irrefl _))).trans (if_neg (fun z0 => (fun z1 => a0 z1.2) z0.1)).symm
theorem own_final {n c0 c1 c2 c3 c4 : Int32} (h : n = (0 : Int32) ∨ n = (1 : Int32) ∨ n = (2 : Int32) ∨ n = (3 : Int32) ∨ n = (4 : Int32) ∨ n = (5 : Int32)) : own_scan (own_take n c0 c1 c2 c3 c4) (own_take n c0 c1 c2 c3 c4).length 0 = if own_exp n c0 c1 c2 c3 c4 then 1 else 0 := by
  rcases h with rfl | rfl | rfl | rfl | rfl | rfl
  · exact own_final0 c0 c1 c2 c3 c4
  · exact own_final1 c0 c1 c2 c3 c4
  · exact own_final2 c0 c1 c2 c3 c4
  · exact own_final3 c0 c1 c2 c3 c4
  · exact own_final4 c0 c1 c2 c3 c4
  · exact own_final5 c0 c1 c2 c3 c4
theorem d_jdk_42_method_149_0 : decode jdk_42_method_149_code 0 = .ok (.aload_n 0, 1) := by decide +kernel
theorem d_jdk_42_method_149_1 : decode jdk_42_method_149_code 1 = .ok (.invokespecial 1, 3) := by decide +kernel
theorem d_jdk_42_method_149_4 : decode jdk_42_method_149_code 4 = .ok (.iload_n 3, 1) := by decide +kernel
theorem d_jdk_42_method_149_5 : decode jdk_42_method_149_code 5 = .ok (.ifCond .ne 22, 3) := by decide +kernel
theorem d_jdk_42_method_149_8 : decode jdk_42_method_149_code 8 = .ok (.aload_n 0, 1) := by decide +kernel
theorem d_jdk_42_method_149_9 : decode jdk_42_method_149_code 9 = .ok (.ldc 7, 2) := by decide +kernel
theorem d_jdk_42_method_149_11 : decode jdk_42_method_149_code 11 = .ok (.getfield 9, 3) := by decide +kernel
theorem d_jdk_42_method_149_14 : decode jdk_42_method_149_code 14 = .ok (.putfield 9, 3) := by decide +kernel
theorem d_jdk_42_method_149_17 : decode jdk_42_method_149_code 17 = .ok (.aload_n 0, 1) := by decide +kernel
theorem d_jdk_42_method_149_18 : decode jdk_42_method_149_code 18 = .ok (.ldc 7, 2) := by decide +kernel
theorem d_jdk_42_method_149_20 : decode jdk_42_method_149_code 20 = .ok (.getfield 15, 3) := by decide +kernel
theorem d_jdk_42_method_149_23 : decode jdk_42_method_149_code 23 = .ok (.putfield 15, 3) := by decide +kernel
theorem d_jdk_42_method_149_26 : decode jdk_42_method_149_code 26 = .ok (.return_, 1) := by decide +kernel
theorem pn_0 : plainName "java/lang/String" = true := by first | (simp [plainName, overriddenIn]; done) | decide +kernel
theorem d_jdk_42_method_3_0 : decode jdk_42_method_3_code 0 = .ok (.aload_n 0, 1) := by decide +kernel
theorem d_jdk_42_method_3_1 : decode jdk_42_method_3_code 1 = .ok (.aload_n 1, 1) := by decide +kernel
theorem d_jdk_42_method_3_2 : decode jdk_42_method_3_code 2 = .ok (.iconst 0, 1) := by decide +kernel
theorem d_jdk_42_method_3_3 : decode jdk_42_method_3_code 3 = .ok (.aload_n 1, 1) := by decide +kernel
theorem d_jdk_42_method_3_4 : decode jdk_42_method_3_code 4 = .ok (.arraylength, 1) := by decide +kernel
theorem d_jdk_42_method_3_5 : decode jdk_42_method_3_code 5 = .ok (.aconst_null, 1) := by decide +kernel
theorem d_jdk_42_method_3_6 : decode jdk_42_method_3_code 6 = .ok (.invokespecial 27, 3) := by decide +kernel
theorem pd_0 : parseMethodDescriptor "([CIILjava/lang/Void;)V" = some ⟨[(.array .char), .int, .int, (.object "java/lang/Void")], none⟩ := by decide +kernel
theorem d_jdk_42_method_3_9 : decode jdk_42_method_3_code 9 = .ok (.return_, 1) := by decide +kernel
theorem d_method_4_0 : decode method_4_code 0 = .ok (.iload_n 0, 1) := by decide +kernel
theorem d_method_4_1 : decode method_4_code 1 = .ok (.bipush 65, 2) := by decide +kernel
theorem d_method_4_3 : decode method_4_code 3 = .ok (.if_icmp .lt 9, 3) := by decide +kernel
theorem d_method_4_12 : decode method_4_code 12 = .ok (.iload_n 0, 1) := by decide +kernel
theorem d_method_4_13 : decode method_4_code 13 = .ok (.bipush 97, 2) := by decide +kernel
theorem d_method_4_15 : decode method_4_code 15 = .ok (.if_icmp .lt 13, 3) := by decide +kernel
theorem d_method_4_28 : decode method_4_code 28 = .ok (.iconst 0, 1) := by decide +kernel
theorem d_method_4_29 : decode method_4_code 29 = .ok (.ireturn, 1) := by decide +kernel
theorem d_method_4_18 : decode method_4_code 18 = .ok (.iload_n 0, 1) := by decide +kernel
theorem d_method_4_19 : decode method_4_code 19 = .ok (.bipush 122, 2) := by decide +kernel
theorem d_method_4_21 : decode method_4_code 21 = .ok (.if_icmp .gt 7, 3) := by decide +kernel
theorem d_method_4_24 : decode method_4_code 24 = .ok (.iconst 1, 1) := by decide +kernel
theorem d_method_4_25 : decode method_4_code 25 = .ok (.goto 4, 3) := by decide +kernel
theorem d_method_4_6 : decode method_4_code 6 = .ok (.iload_n 0, 1) := by decide +kernel
theorem d_method_4_7 : decode method_4_code 7 = .ok (.bipush 90, 2) := by decide +kernel
theorem d_method_4_9 : decode method_4_code 9 = .ok (.if_icmp .le 15, 3) := by decide +kernel
theorem pn_1 : plainName "org/bindery/IriIsAbsolutePinLaw" = true := by first | (simp [plainName, overriddenIn]; done) | decide +kernel
theorem d_method_5_0 : decode method_5_code 0 = .ok (.iload_n 0, 1) := by decide +kernel
theorem d_method_5_1 : decode method_5_code 1 = .ok (.invokestatic 35, 3) := by decide +kernel
theorem pd_1 : parseMethodDescriptor "(C)Z" = some ⟨[.char], some .boolean⟩ := by decide +kernel
theorem d_method_5_4 : decode method_5_code 4 = .ok (.ifCond .ne 33, 3) := by decide +kernel
theorem d_method_5_37 : decode method_5_code 37 = .ok (.iconst 1, 1) := by decide +kernel
theorem d_method_5_38 : decode method_5_code 38 = .ok (.goto 4, 3) := by decide +kernel
theorem d_method_5_42 : decode method_5_code 42 = .ok (.ireturn, 1) := by decide +kernel
theorem d_method_5_7 : decode method_5_code 7 = .ok (.iload_n 0, 1) := by decide +kernel
theorem d_method_5_8 : decode method_5_code 8 = .ok (.bipush 48, 2) := by decide +kernel
theorem d_method_5_10 : decode method_5_code 10 = .ok (.if_icmp .lt 9, 3) := by decide +kernel
theorem d_method_5_19 : decode method_5_code 19 = .ok (.iload_n 0, 1) := by decide +kernel
theorem d_method_5_20 : decode method_5_code 20 = .ok (.bipush 43, 2) := by decide +kernel
theorem d_method_5_22 : decode method_5_code 22 = .ok (.if_icmp .eq 15, 3) := by decide +kernel
theorem d_method_5_25 : decode method_5_code 25 = .ok (.iload_n 0, 1) := by decide +kernel
theorem d_method_5_26 : decode method_5_code 26 = .ok (.bipush 45, 2) := by decide +kernel
theorem d_method_5_28 : decode method_5_code 28 = .ok (.if_icmp .eq 9, 3) := by decide +kernel
theorem d_method_5_31 : decode method_5_code 31 = .ok (.iload_n 0, 1) := by decide +kernel
theorem d_method_5_32 : decode method_5_code 32 = .ok (.bipush 46, 2) := by decide +kernel
theorem d_method_5_34 : decode method_5_code 34 = .ok (.if_icmp .ne 7, 3) := by decide +kernel
theorem d_method_5_41 : decode method_5_code 41 = .ok (.iconst 0, 1) := by decide +kernel
theorem d_method_5_13 : decode method_5_code 13 = .ok (.iload_n 0, 1) := by decide +kernel
theorem d_method_5_14 : decode method_5_code 14 = .ok (.bipush 57, 2) := by decide +kernel
theorem d_method_5_16 : decode method_5_code 16 = .ok (.if_icmp .le 21, 3) := by decide +kernel
theorem d_prog_62_method_3_0 : decode prog_62_method_3_code 0 = .ok (.iload_n 0, 1) := by decide +kernel
theorem d_prog_62_method_3_1 : decode prog_62_method_3_code 1 = .ok (.bipush 65, 2) := by decide +kernel
theorem d_prog_62_method_3_3 : decode prog_62_method_3_code 3 = .ok (.if_icmp .lt 9, 3) := by decide +kernel
theorem d_prog_62_method_3_12 : decode prog_62_method_3_code 12 = .ok (.iload_n 0, 1) := by decide +kernel
theorem d_prog_62_method_3_13 : decode prog_62_method_3_code 13 = .ok (.bipush 97, 2) := by decide +kernel
theorem d_prog_62_method_3_15 : decode prog_62_method_3_code 15 = .ok (.if_icmp .lt 9, 3) := by decide +kernel
theorem d_prog_62_method_3_24 : decode prog_62_method_3_code 24 = .ok (.iload_n 1, 1) := by decide +kernel
theorem d_prog_62_method_3_25 : decode prog_62_method_3_code 25 = .ok (.ifCond .ne 37, 3) := by decide +kernel
theorem d_prog_62_method_3_62 : decode prog_62_method_3_code 62 = .ok (.iconst 0, 1) := by decide +kernel
theorem d_prog_62_method_3_63 : decode prog_62_method_3_code 63 = .ok (.ireturn, 1) := by decide +kernel
theorem d_prog_62_method_3_18 : decode prog_62_method_3_code 18 = .ok (.iload_n 0, 1) := by decide +kernel
theorem d_prog_62_method_3_19 : decode prog_62_method_3_code 19 = .ok (.bipush 122, 2) := by decide +kernel
theorem d_prog_62_method_3_21 : decode prog_62_method_3_code 21 = .ok (.if_icmp .le 37, 3) := by decide +kernel
theorem d_prog_62_method_3_58 : decode prog_62_method_3_code 58 = .ok (.iconst 1, 1) := by decide +kernel
theorem d_prog_62_method_3_59 : decode prog_62_method_3_code 59 = .ok (.goto 4, 3) := by decide +kernel
theorem d_prog_62_method_3_6 : decode prog_62_method_3_code 6 = .ok (.iload_n 0, 1) := by decide +kernel
theorem d_prog_62_method_3_7 : decode prog_62_method_3_code 7 = .ok (.bipush 90, 2) := by decide +kernel
theorem d_prog_62_method_3_9 : decode prog_62_method_3_code 9 = .ok (.if_icmp .le 49, 3) := by decide +kernel
theorem pn_2 : plainName "org/bindery/Iri" = true := by first | (simp [plainName, overriddenIn]; done) | decide +kernel
theorem d_prog_62_method_3_28 : decode prog_62_method_3_code 28 = .ok (.iload_n 0, 1) := by decide +kernel
theorem d_prog_62_method_3_29 : decode prog_62_method_3_code 29 = .ok (.bipush 48, 2) := by decide +kernel
theorem d_prog_62_method_3_31 : decode prog_62_method_3_code 31 = .ok (.if_icmp .lt 9, 3) := by decide +kernel
theorem d_prog_62_method_3_40 : decode prog_62_method_3_code 40 = .ok (.iload_n 0, 1) := by decide +kernel
theorem d_prog_62_method_3_41 : decode prog_62_method_3_code 41 = .ok (.bipush 43, 2) := by decide +kernel
theorem d_prog_62_method_3_43 : decode prog_62_method_3_code 43 = .ok (.if_icmp .eq 15, 3) := by decide +kernel
theorem d_prog_62_method_3_46 : decode prog_62_method_3_code 46 = .ok (.iload_n 0, 1) := by decide +kernel
theorem d_prog_62_method_3_47 : decode prog_62_method_3_code 47 = .ok (.bipush 45, 2) := by decide +kernel
theorem d_prog_62_method_3_49 : decode prog_62_method_3_code 49 = .ok (.if_icmp .eq 9, 3) := by decide +kernel
theorem d_prog_62_method_3_52 : decode prog_62_method_3_code 52 = .ok (.iload_n 0, 1) := by decide +kernel
theorem d_prog_62_method_3_53 : decode prog_62_method_3_code 53 = .ok (.bipush 46, 2) := by decide +kernel
theorem d_prog_62_method_3_55 : decode prog_62_method_3_code 55 = .ok (.if_icmp .ne 7, 3) := by decide +kernel
theorem d_prog_62_method_3_34 : decode prog_62_method_3_code 34 = .ok (.iload_n 0, 1) := by decide +kernel
theorem d_prog_62_method_3_35 : decode prog_62_method_3_code 35 = .ok (.bipush 57, 2) := by decide +kernel
theorem d_prog_62_method_3_37 : decode prog_62_method_3_code 37 = .ok (.if_icmp .le 21, 3) := by decide +kernel
theorem d_method_6_0 : decode method_6_code 0 = .ok (.iload_n 2, 1) := by decide +kernel
theorem d_method_6_1 : decode method_6_code 1 = .ok (.iload_n 1, 1) := by decide +kernel
theorem d_method_6_2 : decode method_6_code 2 = .ok (.if_icmp .ge 16, 3) := by decide +kernel
theorem d_method_6_5 : decode method_6_code 5 = .ok (.aload_n 0, 1) := by decide +kernel
theorem d_method_6_6 : decode method_6_code 6 = .ok (.iload_n 2, 1) := by decide +kernel
theorem d_method_6_7 : decode method_6_code 7 = .ok (.caload, 1) := by decide +kernel
theorem d_method_6_8 : decode method_6_code 8 = .ok (.invokestatic 35, 3) := by decide +kernel
theorem d_method_6_11 : decode method_6_code 11 = .ok (.ifCond .eq 7, 3) := by decide +kernel
theorem d_method_6_14 : decode method_6_code 14 = .ok (.iconst 1, 1) := by decide +kernel
theorem d_method_6_15 : decode method_6_code 15 = .ok (.goto 4, 3) := by decide +kernel
theorem d_method_6_19 : decode method_6_code 19 = .ok (.ireturn, 1) := by decide +kernel
theorem d_method_6_18 : decode method_6_code 18 = .ok (.iconst 0, 1) := by decide +kernel
theorem d_method_7_0 : decode method_7_code 0 = .ok (.iload_n 2, 1) := by decide +kernel
theorem d_method_7_1 : decode method_7_code 1 = .ok (.iload_n 1, 1) := by decide +kernel
theorem d_method_7_2 : decode method_7_code 2 = .ok (.if_icmp .ge 16, 3) := by decide +kernel
theorem d_method_7_5 : decode method_7_code 5 = .ok (.aload_n 0, 1) := by decide +kernel
theorem d_method_7_6 : decode method_7_code 6 = .ok (.iload_n 2, 1) := by decide +kernel
theorem d_method_7_7 : decode method_7_code 7 = .ok (.caload, 1) := by decide +kernel
theorem d_method_7_8 : decode method_7_code 8 = .ok (.invokestatic 39, 3) := by decide +kernel
theorem d_method_7_11 : decode method_7_code 11 = .ok (.ifCond .eq 7, 3) := by decide +kernel
theorem d_method_7_14 : decode method_7_code 14 = .ok (.iconst 1, 1) := by decide +kernel
theorem d_method_7_15 : decode method_7_code 15 = .ok (.goto 4, 3) := by decide +kernel
theorem d_method_7_19 : decode method_7_code 19 = .ok (.ireturn, 1) := by decide +kernel
theorem d_method_7_18 : decode method_7_code 18 = .ok (.iconst 0, 1) := by decide +kernel
theorem d_method_8_0 : decode method_8_code 0 = .ok (.iload_n 2, 1) := by decide +kernel
theorem d_method_8_1 : decode method_8_code 1 = .ok (.iload_n 1, 1) := by decide +kernel
theorem d_method_8_2 : decode method_8_code 2 = .ok (.if_icmp .ge 15, 3) := by decide +kernel
theorem d_method_8_5 : decode method_8_code 5 = .ok (.aload_n 0, 1) := by decide +kernel
theorem d_method_8_6 : decode method_8_code 6 = .ok (.iload_n 2, 1) := by decide +kernel
theorem d_method_8_7 : decode method_8_code 7 = .ok (.caload, 1) := by decide +kernel
theorem d_method_8_8 : decode method_8_code 8 = .ok (.bipush 58, 2) := by decide +kernel
theorem d_method_8_10 : decode method_8_code 10 = .ok (.if_icmp .ne 7, 3) := by decide +kernel
theorem d_method_8_13 : decode method_8_code 13 = .ok (.iconst 1, 1) := by decide +kernel
theorem d_method_8_14 : decode method_8_code 14 = .ok (.goto 4, 3) := by decide +kernel
theorem d_method_8_18 : decode method_8_code 18 = .ok (.ireturn, 1) := by decide +kernel
theorem d_method_8_17 : decode method_8_code 17 = .ok (.iconst 0, 1) := by decide +kernel
theorem d_method_3_0 : decode method_3_code 0 = .ok (.iload_n 1, 1) := by decide +kernel
theorem d_method_3_1 : decode method_3_code 1 = .ok (.ifCond .ne 14, 3) := by decide +kernel
theorem d_method_3_4 : decode method_3_code 4 = .ok (.new 30, 3) := by decide +kernel
theorem d_method_3_7 : decode method_3_code 7 = .ok (.dup, 1) := by decide +kernel
theorem d_method_3_8 : decode method_3_code 8 = .ok (.iconst 0, 1) := by decide +kernel
theorem d_method_3_9 : decode method_3_code 9 = .ok (.newarray .char, 2) := by decide +kernel
theorem d_method_3_11 : decode method_3_code 11 = .ok (.invokespecial 32, 3) := by decide +kernel
theorem pd_2 : parseMethodDescriptor "([C)V" = some ⟨[(.array .char)], none⟩ := by decide +kernel
theorem d_method_3_14 : decode method_3_code 14 = .ok (.areturn, 1) := by decide +kernel
theorem d_method_3_15 : decode method_3_code 15 = .ok (.iload_n 1, 1) := by decide +kernel
theorem d_method_3_16 : decode method_3_code 16 = .ok (.iconst 1, 1) := by decide +kernel
theorem d_method_3_17 : decode method_3_code 17 = .ok (.if_icmp .ne 20, 3) := by decide +kernel
theorem d_method_3_20 : decode method_3_code 20 = .ok (.new 30, 3) := by decide +kernel
theorem d_method_3_23 : decode method_3_code 23 = .ok (.dup, 1) := by decide +kernel
theorem d_method_3_24 : decode method_3_code 24 = .ok (.iconst 1, 1) := by decide +kernel
theorem d_method_3_25 : decode method_3_code 25 = .ok (.newarray .char, 2) := by decide +kernel
theorem d_method_3_27 : decode method_3_code 27 = .ok (.dup, 1) := by decide +kernel
theorem d_method_3_28 : decode method_3_code 28 = .ok (.iconst 0, 1) := by decide +kernel
theorem d_method_3_29 : decode method_3_code 29 = .ok (.aload_n 0, 1) := by decide +kernel
theorem d_method_3_30 : decode method_3_code 30 = .ok (.iconst 0, 1) := by decide +kernel
theorem d_method_3_31 : decode method_3_code 31 = .ok (.caload, 1) := by decide +kernel
theorem d_method_3_32 : decode method_3_code 32 = .ok (.castore, 1) := by decide +kernel
theorem d_method_3_33 : decode method_3_code 33 = .ok (.invokespecial 32, 3) := by decide +kernel
theorem d_method_3_36 : decode method_3_code 36 = .ok (.areturn, 1) := by decide +kernel
theorem d_method_3_37 : decode method_3_code 37 = .ok (.iload_n 1, 1) := by decide +kernel
theorem d_method_3_38 : decode method_3_code 38 = .ok (.iconst 2, 1) := by decide +kernel
theorem d_method_3_39 : decode method_3_code 39 = .ok (.if_icmp .ne 26, 3) := by decide +kernel
theorem d_method_3_42 : decode method_3_code 42 = .ok (.new 30, 3) := by decide +kernel
theorem d_method_3_45 : decode method_3_code 45 = .ok (.dup, 1) := by decide +kernel
theorem d_method_3_46 : decode method_3_code 46 = .ok (.iconst 2, 1) := by decide +kernel
theorem d_method_3_47 : decode method_3_code 47 = .ok (.newarray .char, 2) := by decide +kernel
theorem d_method_3_49 : decode method_3_code 49 = .ok (.dup, 1) := by decide +kernel
theorem d_method_3_50 : decode method_3_code 50 = .ok (.iconst 0, 1) := by decide +kernel
theorem d_method_3_51 : decode method_3_code 51 = .ok (.aload_n 0, 1) := by decide +kernel
theorem d_method_3_52 : decode method_3_code 52 = .ok (.iconst 0, 1) := by decide +kernel
theorem d_method_3_53 : decode method_3_code 53 = .ok (.caload, 1) := by decide +kernel
theorem d_method_3_54 : decode method_3_code 54 = .ok (.castore, 1) := by decide +kernel
theorem d_method_3_55 : decode method_3_code 55 = .ok (.dup, 1) := by decide +kernel
theorem d_method_3_56 : decode method_3_code 56 = .ok (.iconst 1, 1) := by decide +kernel
theorem d_method_3_57 : decode method_3_code 57 = .ok (.aload_n 0, 1) := by decide +kernel
theorem d_method_3_58 : decode method_3_code 58 = .ok (.iconst 1, 1) := by decide +kernel
theorem d_method_3_59 : decode method_3_code 59 = .ok (.caload, 1) := by decide +kernel
theorem d_method_3_60 : decode method_3_code 60 = .ok (.castore, 1) := by decide +kernel
theorem d_method_3_61 : decode method_3_code 61 = .ok (.invokespecial 32, 3) := by decide +kernel
theorem d_method_3_64 : decode method_3_code 64 = .ok (.areturn, 1) := by decide +kernel
theorem d_method_3_65 : decode method_3_code 65 = .ok (.iload_n 1, 1) := by decide +kernel
theorem d_method_3_66 : decode method_3_code 66 = .ok (.iconst 3, 1) := by decide +kernel
theorem d_method_3_67 : decode method_3_code 67 = .ok (.if_icmp .ne 32, 3) := by decide +kernel
theorem d_method_3_70 : decode method_3_code 70 = .ok (.new 30, 3) := by decide +kernel
theorem d_method_3_73 : decode method_3_code 73 = .ok (.dup, 1) := by decide +kernel
theorem d_method_3_74 : decode method_3_code 74 = .ok (.iconst 3, 1) := by decide +kernel
theorem d_method_3_75 : decode method_3_code 75 = .ok (.newarray .char, 2) := by decide +kernel
theorem d_method_3_77 : decode method_3_code 77 = .ok (.dup, 1) := by decide +kernel
theorem d_method_3_78 : decode method_3_code 78 = .ok (.iconst 0, 1) := by decide +kernel
theorem d_method_3_79 : decode method_3_code 79 = .ok (.aload_n 0, 1) := by decide +kernel
theorem d_method_3_80 : decode method_3_code 80 = .ok (.iconst 0, 1) := by decide +kernel
theorem d_method_3_81 : decode method_3_code 81 = .ok (.caload, 1) := by decide +kernel
theorem d_method_3_82 : decode method_3_code 82 = .ok (.castore, 1) := by decide +kernel
theorem d_method_3_83 : decode method_3_code 83 = .ok (.dup, 1) := by decide +kernel
theorem d_method_3_84 : decode method_3_code 84 = .ok (.iconst 1, 1) := by decide +kernel
theorem d_method_3_85 : decode method_3_code 85 = .ok (.aload_n 0, 1) := by decide +kernel
theorem d_method_3_86 : decode method_3_code 86 = .ok (.iconst 1, 1) := by decide +kernel
theorem d_method_3_87 : decode method_3_code 87 = .ok (.caload, 1) := by decide +kernel
theorem d_method_3_88 : decode method_3_code 88 = .ok (.castore, 1) := by decide +kernel
theorem d_method_3_89 : decode method_3_code 89 = .ok (.dup, 1) := by decide +kernel
theorem d_method_3_90 : decode method_3_code 90 = .ok (.iconst 2, 1) := by decide +kernel
theorem d_method_3_91 : decode method_3_code 91 = .ok (.aload_n 0, 1) := by decide +kernel
theorem d_method_3_92 : decode method_3_code 92 = .ok (.iconst 2, 1) := by decide +kernel
theorem d_method_3_93 : decode method_3_code 93 = .ok (.caload, 1) := by decide +kernel
theorem d_method_3_94 : decode method_3_code 94 = .ok (.castore, 1) := by decide +kernel
theorem d_method_3_95 : decode method_3_code 95 = .ok (.invokespecial 32, 3) := by decide +kernel
theorem d_method_3_98 : decode method_3_code 98 = .ok (.areturn, 1) := by decide +kernel
theorem d_method_3_99 : decode method_3_code 99 = .ok (.iload_n 1, 1) := by decide +kernel
theorem d_method_3_100 : decode method_3_code 100 = .ok (.iconst 4, 1) := by decide +kernel
theorem d_method_3_101 : decode method_3_code 101 = .ok (.if_icmp .ne 38, 3) := by decide +kernel
theorem d_method_3_104 : decode method_3_code 104 = .ok (.new 30, 3) := by decide +kernel
theorem d_method_3_107 : decode method_3_code 107 = .ok (.dup, 1) := by decide +kernel
theorem d_method_3_108 : decode method_3_code 108 = .ok (.iconst 4, 1) := by decide +kernel
theorem d_method_3_109 : decode method_3_code 109 = .ok (.newarray .char, 2) := by decide +kernel
theorem d_method_3_111 : decode method_3_code 111 = .ok (.dup, 1) := by decide +kernel
theorem d_method_3_112 : decode method_3_code 112 = .ok (.iconst 0, 1) := by decide +kernel
theorem d_method_3_113 : decode method_3_code 113 = .ok (.aload_n 0, 1) := by decide +kernel
theorem d_method_3_114 : decode method_3_code 114 = .ok (.iconst 0, 1) := by decide +kernel
theorem d_method_3_115 : decode method_3_code 115 = .ok (.caload, 1) := by decide +kernel
theorem d_method_3_116 : decode method_3_code 116 = .ok (.castore, 1) := by decide +kernel
theorem d_method_3_117 : decode method_3_code 117 = .ok (.dup, 1) := by decide +kernel
theorem d_method_3_118 : decode method_3_code 118 = .ok (.iconst 1, 1) := by decide +kernel
theorem d_method_3_119 : decode method_3_code 119 = .ok (.aload_n 0, 1) := by decide +kernel
theorem d_method_3_120 : decode method_3_code 120 = .ok (.iconst 1, 1) := by decide +kernel
theorem d_method_3_121 : decode method_3_code 121 = .ok (.caload, 1) := by decide +kernel
theorem d_method_3_122 : decode method_3_code 122 = .ok (.castore, 1) := by decide +kernel
theorem d_method_3_123 : decode method_3_code 123 = .ok (.dup, 1) := by decide +kernel
theorem d_method_3_124 : decode method_3_code 124 = .ok (.iconst 2, 1) := by decide +kernel
theorem d_method_3_125 : decode method_3_code 125 = .ok (.aload_n 0, 1) := by decide +kernel
theorem d_method_3_126 : decode method_3_code 126 = .ok (.iconst 2, 1) := by decide +kernel
theorem d_method_3_127 : decode method_3_code 127 = .ok (.caload, 1) := by decide +kernel
theorem d_method_3_128 : decode method_3_code 128 = .ok (.castore, 1) := by decide +kernel
theorem d_method_3_129 : decode method_3_code 129 = .ok (.dup, 1) := by decide +kernel
theorem d_method_3_130 : decode method_3_code 130 = .ok (.iconst 3, 1) := by decide +kernel
theorem d_method_3_131 : decode method_3_code 131 = .ok (.aload_n 0, 1) := by decide +kernel
theorem d_method_3_132 : decode method_3_code 132 = .ok (.iconst 3, 1) := by decide +kernel
theorem d_method_3_133 : decode method_3_code 133 = .ok (.caload, 1) := by decide +kernel
theorem d_method_3_134 : decode method_3_code 134 = .ok (.castore, 1) := by decide +kernel
theorem d_method_3_135 : decode method_3_code 135 = .ok (.invokespecial 32, 3) := by decide +kernel
theorem d_method_3_138 : decode method_3_code 138 = .ok (.areturn, 1) := by decide +kernel
theorem d_method_3_139 : decode method_3_code 139 = .ok (.new 30, 3) := by decide +kernel
theorem d_method_3_142 : decode method_3_code 142 = .ok (.dup, 1) := by decide +kernel
theorem d_method_3_143 : decode method_3_code 143 = .ok (.iconst 5, 1) := by decide +kernel
theorem d_method_3_144 : decode method_3_code 144 = .ok (.newarray .char, 2) := by decide +kernel
theorem d_method_3_146 : decode method_3_code 146 = .ok (.dup, 1) := by decide +kernel
theorem d_method_3_147 : decode method_3_code 147 = .ok (.iconst 0, 1) := by decide +kernel
theorem d_method_3_148 : decode method_3_code 148 = .ok (.aload_n 0, 1) := by decide +kernel
theorem d_method_3_149 : decode method_3_code 149 = .ok (.iconst 0, 1) := by decide +kernel
theorem d_method_3_150 : decode method_3_code 150 = .ok (.caload, 1) := by decide +kernel
theorem d_method_3_151 : decode method_3_code 151 = .ok (.castore, 1) := by decide +kernel
theorem d_method_3_152 : decode method_3_code 152 = .ok (.dup, 1) := by decide +kernel
theorem d_method_3_153 : decode method_3_code 153 = .ok (.iconst 1, 1) := by decide +kernel
theorem d_method_3_154 : decode method_3_code 154 = .ok (.aload_n 0, 1) := by decide +kernel
theorem d_method_3_155 : decode method_3_code 155 = .ok (.iconst 1, 1) := by decide +kernel
theorem d_method_3_156 : decode method_3_code 156 = .ok (.caload, 1) := by decide +kernel
theorem d_method_3_157 : decode method_3_code 157 = .ok (.castore, 1) := by decide +kernel
theorem d_method_3_158 : decode method_3_code 158 = .ok (.dup, 1) := by decide +kernel
theorem d_method_3_159 : decode method_3_code 159 = .ok (.iconst 2, 1) := by decide +kernel
theorem d_method_3_160 : decode method_3_code 160 = .ok (.aload_n 0, 1) := by decide +kernel
theorem d_method_3_161 : decode method_3_code 161 = .ok (.iconst 2, 1) := by decide +kernel
theorem d_method_3_162 : decode method_3_code 162 = .ok (.caload, 1) := by decide +kernel
theorem d_method_3_163 : decode method_3_code 163 = .ok (.castore, 1) := by decide +kernel
theorem d_method_3_164 : decode method_3_code 164 = .ok (.dup, 1) := by decide +kernel
theorem d_method_3_165 : decode method_3_code 165 = .ok (.iconst 3, 1) := by decide +kernel
theorem d_method_3_166 : decode method_3_code 166 = .ok (.aload_n 0, 1) := by decide +kernel
theorem d_method_3_167 : decode method_3_code 167 = .ok (.iconst 3, 1) := by decide +kernel
theorem d_method_3_168 : decode method_3_code 168 = .ok (.caload, 1) := by decide +kernel
theorem d_method_3_169 : decode method_3_code 169 = .ok (.castore, 1) := by decide +kernel
theorem d_method_3_170 : decode method_3_code 170 = .ok (.dup, 1) := by decide +kernel
theorem d_method_3_171 : decode method_3_code 171 = .ok (.iconst 4, 1) := by decide +kernel
theorem d_method_3_172 : decode method_3_code 172 = .ok (.aload_n 0, 1) := by decide +kernel
theorem d_method_3_173 : decode method_3_code 173 = .ok (.iconst 4, 1) := by decide +kernel
theorem d_method_3_174 : decode method_3_code 174 = .ok (.caload, 1) := by decide +kernel
theorem d_method_3_175 : decode method_3_code 175 = .ok (.castore, 1) := by decide +kernel
theorem d_method_3_176 : decode method_3_code 176 = .ok (.invokespecial 32, 3) := by decide +kernel
theorem d_method_3_179 : decode method_3_code 179 = .ok (.areturn, 1) := by decide +kernel
theorem d_prog_62_method_2_0 : decode prog_62_method_2_code 0 = .ok (.iconst 0, 1) := by decide +kernel
theorem d_prog_62_method_2_1 : decode prog_62_method_2_code 1 = .ok (.istore_n 1, 1) := by decide +kernel
theorem d_prog_62_method_2_2 : decode prog_62_method_2_code 2 = .ok (.iload_n 1, 1) := by decide +kernel
theorem d_prog_62_method_2_3 : decode prog_62_method_2_code 3 = .ok (.aload_n 0, 1) := by decide +kernel
theorem d_prog_62_method_2_4 : decode prog_62_method_2_code 4 = .ok (.invokevirtual 7, 3) := by decide +kernel
theorem pd_3 : parseMethodDescriptor "()I" = some ⟨[], some .int⟩ := by decide +kernel
theorem d_prog_62_method_2_7 : decode prog_62_method_2_code 7 = .ok (.if_icmp .ge 29, 3) := by decide +kernel
theorem d_prog_62_method_2_36 : decode prog_62_method_2_code 36 = .ok (.iload_n 1, 1) := by decide +kernel
theorem d_prog_62_method_2_37 : decode prog_62_method_2_code 37 = .ok (.ifCond .le 25, 3) := by decide +kernel
theorem d_prog_62_method_2_62 : decode prog_62_method_2_code 62 = .ok (.iconst 0, 1) := by decide +kernel
theorem d_prog_62_method_2_63 : decode prog_62_method_2_code 63 = .ok (.ireturn, 1) := by decide +kernel
theorem d_prog_62_method_2_40 : decode prog_62_method_2_code 40 = .ok (.iload_n 1, 1) := by decide +kernel
theorem d_prog_62_method_2_41 : decode prog_62_method_2_code 41 = .ok (.aload_n 0, 1) := by decide +kernel
theorem d_prog_62_method_2_42 : decode prog_62_method_2_code 42 = .ok (.invokevirtual 7, 3) := by decide +kernel
theorem d_prog_62_method_2_45 : decode prog_62_method_2_code 45 = .ok (.if_icmp .ge 17, 3) := by decide +kernel
theorem d_prog_62_method_2_10 : decode prog_62_method_2_code 10 = .ok (.aload_n 0, 1) := by decide +kernel
theorem d_prog_62_method_2_11 : decode prog_62_method_2_code 11 = .ok (.iload_n 1, 1) := by decide +kernel
theorem d_prog_62_method_2_12 : decode prog_62_method_2_code 12 = .ok (.invokevirtual 13, 3) := by decide +kernel
theorem pd_4 : parseMethodDescriptor "(I)C" = some ⟨[.int], some .char⟩ := by decide +kernel
theorem d_prog_62_method_2_15 : decode prog_62_method_2_code 15 = .ok (.iload_n 1, 1) := by decide +kernel
theorem d_prog_62_method_2_16 : decode prog_62_method_2_code 16 = .ok (.ifCond .ne 7, 3) := by decide +kernel
theorem d_prog_62_method_2_19 : decode prog_62_method_2_code 19 = .ok (.iconst 1, 1) := by decide +kernel
theorem d_prog_62_method_2_20 : decode prog_62_method_2_code 20 = .ok (.goto 4, 3) := by decide +kernel
theorem d_prog_62_method_2_24 : decode prog_62_method_2_code 24 = .ok (.invokestatic 17, 3) := by decide +kernel
theorem pd_5 : parseMethodDescriptor "(CZ)Z" = some ⟨[.char, .boolean], some .boolean⟩ := by decide +kernel
theorem d_prog_62_method_2_27 : decode prog_62_method_2_code 27 = .ok (.ifCond .eq 9, 3) := by decide +kernel
theorem d_prog_62_method_2_30 : decode prog_62_method_2_code 30 = .ok (.iinc 1 1, 3) := by decide +kernel
theorem d_prog_62_method_2_33 : decode prog_62_method_2_code 33 = .ok (.goto (-31), 3) := by decide +kernel
theorem d_prog_62_method_2_23 : decode prog_62_method_2_code 23 = .ok (.iconst 0, 1) := by decide +kernel
theorem d_prog_62_method_2_48 : decode prog_62_method_2_code 48 = .ok (.aload_n 0, 1) := by decide +kernel
theorem d_prog_62_method_2_49 : decode prog_62_method_2_code 49 = .ok (.iload_n 1, 1) := by decide +kernel
theorem d_prog_62_method_2_50 : decode prog_62_method_2_code 50 = .ok (.invokevirtual 13, 3) := by decide +kernel
theorem d_prog_62_method_2_53 : decode prog_62_method_2_code 53 = .ok (.bipush 58, 2) := by decide +kernel
theorem d_prog_62_method_2_55 : decode prog_62_method_2_code 55 = .ok (.if_icmp .ne 7, 3) := by decide +kernel
theorem d_prog_62_method_2_58 : decode prog_62_method_2_code 58 = .ok (.iconst 1, 1) := by decide +kernel
theorem d_prog_62_method_2_59 : decode prog_62_method_2_code 59 = .ok (.goto 4, 3) := by decide +kernel
theorem pd_6 : parseMethodDescriptor "([CI)Ljava/lang/String;" = some ⟨[(.array .char), .int], some (.object "java/lang/String")⟩ := by decide +kernel
theorem pd_7 : parseMethodDescriptor "([CII)Z" = some ⟨[(.array .char), .int, .int], some .boolean⟩ := by decide +kernel
theorem pd_8 : parseMethodDescriptor "(Ljava/lang/String;)Z" = some ⟨[(.object "java/lang/String")], some .boolean⟩ := by decide +kernel
def QSE2 (Z : State) (a : Addr) (b : Addr) (h0 : Heap) (n0 : Nat) (v : Option Value) (h : Heap) (L : List Loc) : Prop := ∃ t : Addr, ∃ k : ClassId, v = none ∧ Fr n0 L ∧ Keep h0 h [a] ∧ Fld Z h a "java/lang/String" "coder" "B" (.int (0 : Int32)) ∧ Fld Z h a "java/lang/String" "value" "[B" (.ref t) ∧ Arv Z h t k .byte (0 : Int32) (own_bs []) (.int (0 : Int32))
theorem ef_SE2 (m : MethodId) (a : Addr) (b : Addr) : entryFrame m #[(.ref a), (.ref b), (.int (0 : Int32)), (.int (0 : Int32)), .null] 6 = mkF m 0 #[.val (.ref a), .val (.ref b), .val (.int (0 : Int32)), .val (.int (0 : Int32)), .val .null, .unset] [] := by first | (simp [entryFrame, mkF, argsToLocals, Value.category]; done) | rfl | (rfl)
set_option maxRecDepth 65536 in
set_option maxHeartbeats 40000000 in
theorem rmSE2 (l : Launch) (Z : State) (a0 : Array Value) (hw : ∀ d ∈ tables_1, d.before a0 Z = true) (ws : List Jvm.Cond) (a : Addr) (b : Addr) (h0 : Heap) (n0 : Nat) (O : Old Z n0 h0) (E : Exa Z h0 a "java/lang/String") (F1 : Fld Z h0 a "java/lang/String" "value" "[B" .null) (F2 : Fld Z h0 a "java/lang/String" "coder" "B" (.int (0 : Int32))) (ga : n0 ≤ a) (hcH : Jvm.Lit.constHeld Z "java/lang/String" 7) (hcw : Jvm.Lit.compactW.before a0 Z = true) :
    MetFree l (⟨"java/lang/String", "<init>", "([CIILjava/lang/Void;)V"⟩ : MethodName) (head1 (Jvm.Cond.code (⟨"java/lang/String", "<init>", "([CIILjava/lang/Void;)V"⟩ : MethodName) jdk_42_method_149_code 6 none :: ws) ({ frames := 1, cells := 2, slots := 4, locals := 12 } : Room)) (fun as_ U => as_ = #[(.ref a), (.ref b), (.int (0 : Int32)), (.int (0 : Int32)), .null] ∧ Z.Warmed39 U.vm ∧ U.heap = h0 ∧ Em Z U.vm h0) (fun _ _ _ _ _ => True) (fun _ U oo_ U' => ∃ vv_ LL_, oo_ = .returned vv_ ∧ QSE2 Z a b h0 n0 vv_ U'.heap LL_ ∧ ReturnedEndW U oo_ U' LL_ ({ frames := 1, cells := 2, slots := 4, locals := 12 } : Room).cells ({ frames := 1, cells := 2, slots := 4, locals := 12 } : Room).slots ∧ Em Z U'.vm U'.heap) := by
  refine MetFree.of_bodySF (plainFor_of_name pn_0) hisR ?_
  intro p e s m args below meth c s₁ Bd hml0 hP hK
  obtain ⟨rfl, hZ, hh, M⟩ := hP
  have hx := Bd.exec
  have hby := Bd.bytes
  have hml : c.maxLocals = 6 := hml0
  have hown : s.vm.findClass "java/lang/String" = some m.cls := findClass_of_methodNamed Bd.named
  have hnm := (name_of_methodNamed Bd.named Bd.method).1
  have X0 : Stand p l e ({ frames := 1, cells := 2, slots := 4, locals := 12 } : Room) (s.setVm s.vm) m #[(.ref a), (.ref b), (.int (0 : Int32)), (.int (0 : Int32)), .null] below meth c s₁ [] 0 0 := Stand.of_body Bd
  have e0 : s₁.heap = h0 := by rw [← hh, Bd.state]; rfl
  have N := Fr.nil n0
  have hown : (s.setVm s.vm).vm.findClass "java/lang/String" = some m.cls := hown
  have hZ : Z.Warmed39 (s.setVm s.vm).vm := hZ
  have hS : s.Since s.vm h0.size := (State.WarmedH.refl s).since _
  have hk : h0.size ≤ h0.size := Nat.le_refl _
  have K : Keep h0 h0 [a] := Keep.refl h0 _
  refine own_go (B := s₁.setTop (mkF m 0 #[.val (.ref a), .val (.ref b), .val (.int (0 : Int32)), .val (.int (0 : Int32)), .val .null, .unset] [])) (fun t k => castTop (ef_SE2 m a b) k) ?_
  have KM : Keep h0 h0 [] := Keep.refl h0 _
  refine own_abs (fun P hfin => ?_)
  refine own_go (B := s₁.setTop (mkF m 1 #[.val (.ref a), .val (.ref b), .val (.int (0 : Int32)), .val (.int (0 : Int32)), .val .null, .unset] [(.ref a)])) (fun t k => ?_) ?_
  · show Steps p.tables e below (s₁.setTop (mkF m 0 #[.val (.ref a), .val (.ref b), .val (.int (0 : Int32)), .val (.int (0 : Int32)), .val .null, .unset] [])) _
    refine XS.aloadN X0.here hx rfl (hb hby d_jdk_42_method_149_0) rfl rfl ?_
    show Steps p.tables e below (s₁.setTop (mkF m 1 #[.val (.ref a), .val (.ref b), .val (.int (0 : Int32)), .val (.int (0 : Int32)), .val .null, .unset] [(.ref a)])) _
    exact k
  obtain ⟨T1, X1, e1, st1⟩ := initO X0 hx hZ hown (hw _ (List.mem_of_getElem? (i := 16) rfl)) (hw _ (List.mem_of_getElem? (i := 17) rfl)) (hw _ (List.mem_of_getElem? (i := 18) rfl)) e0 (g := (mkF m 1 #[.val (.ref a), .val (.ref b), .val (.int (0 : Int32)), .val (.int (0 : Int32)), .val .null, .unset] [(.ref a)])) rfl (by rw [hml]; rfl) rfl (hb hby d_jdk_42_method_149_1) (by decide) (W := 0) (by show 2 * 0 + _ ≤ _; exact Nat.le_of_eq rfl) (by decide)
  refine own_go (B := T1.setTop (mkF m 4 #[.val (.ref a), .val (.ref b), .val (.int (0 : Int32)), .val (.int (0 : Int32)), .val .null, .unset] [])) st1 ?_
  refine own_go (B := T1.setTop (mkF m 9 #[.val (.ref a), .val (.ref b), .val (.int (0 : Int32)), .val (.int (0 : Int32)), .val .null, .unset] [(.ref a)])) (fun t k => ?_) ?_
  · show Steps p.tables e below (T1.setTop (mkF m 4 #[.val (.ref a), .val (.ref b), .val (.int (0 : Int32)), .val (.int (0 : Int32)), .val .null, .unset] [])) _
    refine XS.iloadN X1.here hx rfl (hb hby d_jdk_42_method_149_4) rfl ?_
    show Steps p.tables e below (T1.setTop (mkF m 5 #[.val (.ref a), .val (.ref b), .val (.int (0 : Int32)), .val (.int (0 : Int32)), .val .null, .unset] [(.int (0 : Int32))])) _
    refine XS.ifNo X1.here hx rfl (hb hby d_jdk_42_method_149_5) rfl ((if0 _ _).trans (teq (by decide)).2) ?_
    show Steps p.tables e below (T1.setTop (mkF m 8 #[.val (.ref a), .val (.ref b), .val (.int (0 : Int32)), .val (.int (0 : Int32)), .val .null, .unset] [])) _
    refine XS.aloadN X1.here hx rfl (hb hby d_jdk_42_method_149_8) rfl rfl ?_
    show Steps p.tables e below (T1.setTop (mkF m 9 #[.val (.ref a), .val (.ref b), .val (.int (0 : Int32)), .val (.int (0 : Int32)), .val .null, .unset] [(.ref a)])) _
    exact k
  rcases M with I | ⟨ca, cb, ck, LL, Ec, Fc, Fv, Vb⟩
  · have hkeep : ∀ (b : Addr) (cl : Cell), Z.heap[b]? = some cl → s.heap[b]? = some cl := fun b cl q => by rw [hh]; exact O.2.2 b cl q
    obtain ⟨ca, T2, h2, k2, cb, ck, X2, e2, E2, hS, hk', hZ, hown, Ec, Fc, Fv, Vb, -, -, -, LL, st2⟩ := ldcSVL X1 hx hZ hown (hw _ (List.mem_of_getElem? (i := 19) rfl)) (fun d hd => hw d ((by decide +kernel : ∀ d ∈ Bundle.stringAtoms, d ∈ tables_1) d hd)) e1 hS hk (Fr.nil _) hkeep I (by simp) hcH hcw (vs := []) (z := 0) ⟨by simp, rfl⟩ (by decide) rfl (g := (mkF m 9 #[.val (.ref a), .val (.ref b), .val (.int (0 : Int32)), .val (.int (0 : Int32)), .val .null, .unset] [(.ref a)])) rfl (hb hby d_jdk_42_method_149_9) (n := 0) (by decide) (by decide) (by decide) (by decide)
    replace E := E.ext E2
    replace F1 := F1.ext E2
    replace F2 := F2.ext E2
    replace O := O.ext E2
    replace hk := Nat.le_trans hk E2.1
    replace KM := KM.ext E2
    replace K := K.ext E2
    replace hk := hk'
    replace Vb : Arv Z h2 cb ck .byte (0 : Int32) (own_bs []) (.int (0 : Int32)) := Vb
    refine own_go (B := T2.setTop (mkF m 11 #[.val (.ref a), .val (.ref b), .val (.int (0 : Int32)), .val (.int (0 : Int32)), .val .null, .unset] [(.ref ca), (.ref a)])) st2 ?_
    have ne_ca : ca ≠ a := Fld.ne Fv F1 (by simp)
    have ne_cb : cb ≠ a := Ne.symm (E.neArv Vb (hw _ (List.mem_of_getElem? (i := 7) rfl)))
    obtain ⟨T3, X3, e3, st3⟩ := getF X2 hx hZ hown (host := "") (Or.inl (hw _ (List.mem_of_getElem? (i := 25) rfl))) Via.refl e2 Fv (g := (mkF m 11 #[.val (.ref a), .val (.ref b), .val (.int (0 : Int32)), .val (.int (0 : Int32)), .val .null, .unset] [(.ref ca), (.ref a)])) rfl rfl (hb hby d_jdk_42_method_149_11)
    refine own_go (B := T3.setTop (mkF m 14 #[.val (.ref a), .val (.ref b), .val (.int (0 : Int32)), .val (.int (0 : Int32)), .val .null, .unset] [(.ref cb), (.ref a)])) st3 ?_
    obtain ⟨T4, h4, X4, e4, W4, st4⟩ := putF X3 hx hZ hown (host := "") (Or.inl (hw _ (List.mem_of_getElem? (i := 25) rfl))) Via.refl e3 F1 E (Or.inr ⟨(hw _ (List.mem_of_getElem? (i := 21) rfl)), rfl, hnm⟩) (hw _ (List.mem_of_getElem? (i := 7) rfl)) (ty := (.array .byte)) (by decide) rfl rfl (g := (mkF m 14 #[.val (.ref a), .val (.ref b), .val (.int (0 : Int32)), .val (.int (0 : Int32)), .val .null, .unset] [(.ref cb), (.ref a)])) rfl rfl (hb hby d_jdk_42_method_149_14)
    have Fw4 := F1.same W4
    replace E := E.wr W4
    clear F1
    replace F2 := F2.other W4 (Or.inr (slot_ne (Or.inr (hw _ (List.mem_of_getElem? (i := 22) rfl))) (Or.inr (hw _ (List.mem_of_getElem? (i := 21) rfl))) (by decide) (t := .byte) (t' := (.array .byte)) (by decide) (by decide)))
    replace Ec := Ec.wr W4
    replace Fc := Fc.other W4 (Or.inl ne_ca)
    replace Fv := Fv.other W4 (Or.inl ne_ca)
    replace Vb := Vb.other W4 ne_cb
    replace O := O.wr W4 ga
    replace hk := Nat.le_trans hk (Keep.of_wr W4).1
    replace K := K.wr W4 (Or.inl (List.mem_of_getElem? (i := 0) rfl))
    replace N := Fr.snoc X4 N ga
    refine own_go (B := T4.setTop (mkF m 17 #[.val (.ref a), .val (.ref b), .val (.int (0 : Int32)), .val (.int (0 : Int32)), .val .null, .unset] [])) st4 ?_
    refine own_go (B := T4.setTop (mkF m 18 #[.val (.ref a), .val (.ref b), .val (.int (0 : Int32)), .val (.int (0 : Int32)), .val .null, .unset] [(.ref a)])) (fun t k => ?_) ?_
    · show Steps p.tables e below (T4.setTop (mkF m 17 #[.val (.ref a), .val (.ref b), .val (.int (0 : Int32)), .val (.int (0 : Int32)), .val .null, .unset] [])) _
      refine XS.aloadN X4.here hx rfl (hb hby d_jdk_42_method_149_17) rfl rfl ?_
      show Steps p.tables e below (T4.setTop (mkF m 18 #[.val (.ref a), .val (.ref b), .val (.int (0 : Int32)), .val (.int (0 : Int32)), .val .null, .unset] [(.ref a)])) _
      exact k
    have st5 := ldcAgain X4 hx hZ hown (hw _ (List.mem_of_getElem? (i := 19) rfl)) LL (g := (mkF m 18 #[.val (.ref a), .val (.ref b), .val (.int (0 : Int32)), .val (.int (0 : Int32)), .val .null, .unset] [(.ref a)])) rfl (hb hby d_jdk_42_method_149_18)
    refine own_go (B := T4.setTop (mkF m 20 #[.val (.ref a), .val (.ref b), .val (.int (0 : Int32)), .val (.int (0 : Int32)), .val .null, .unset] [(.ref ca), (.ref a)])) st5 ?_
    obtain ⟨T6, X6, e6, st6⟩ := getF X4 hx hZ hown (host := "") (Or.inl (hw _ (List.mem_of_getElem? (i := 26) rfl))) Via.refl e4 Fc (g := (mkF m 20 #[.val (.ref a), .val (.ref b), .val (.int (0 : Int32)), .val (.int (0 : Int32)), .val .null, .unset] [(.ref ca), (.ref a)])) rfl rfl (hb hby d_jdk_42_method_149_20)
    refine own_go (B := T6.setTop (mkF m 23 #[.val (.ref a), .val (.ref b), .val (.int (0 : Int32)), .val (.int (0 : Int32)), .val .null, .unset] [(.int (0 : Int32)), (.ref a)])) st6 ?_
    obtain ⟨T7, h7, X7, e7, W7, st7⟩ := putFN X6 hx hZ hown (hw _ (List.mem_of_getElem? (i := 26) rfl)) Via.refl e6 F2 E (Or.inr ⟨(hw _ (List.mem_of_getElem? (i := 22) rfl)), rfl, hnm⟩) (hw _ (List.mem_of_getElem? (i := 7) rfl)) (ty := .byte) (v' := (.int (0 : Int32))) (by decide) rfl rfl (g := (mkF m 23 #[.val (.ref a), .val (.ref b), .val (.int (0 : Int32)), .val (.int (0 : Int32)), .val .null, .unset] [(.int (0 : Int32)), (.ref a)])) rfl rfl (hb hby d_jdk_42_method_149_23)
    have Fw7 := F2.same W7
    replace E := E.wr W7
    clear F2
    replace Ec := Ec.wr W7
    replace Fc := Fc.other W7 (Or.inl ne_ca)
    replace Fv := Fv.other W7 (Or.inl ne_ca)
    replace Vb := Vb.other W7 ne_cb
    replace Fw4 := Fw4.other W7 (Or.inr (slot_ne (Or.inr (hw _ (List.mem_of_getElem? (i := 21) rfl))) (Or.inr (hw _ (List.mem_of_getElem? (i := 22) rfl))) (by decide) (t := (.array .byte)) (t' := .byte) (by decide) (by decide)))
    replace O := O.wr W7 ga
    replace hk := Nat.le_trans hk (Keep.of_wr W7).1
    replace K := K.wr W7 (Or.inl (List.mem_of_getElem? (i := 0) rfl))
    replace N := Fr.snoc X7 N ga
    refine own_go (B := T7.setTop (mkF m 26 #[.val (.ref a), .val (.ref b), .val (.int (0 : Int32)), .val (.int (0 : Int32)), .val .null, .unset] [])) st7 ?_
    have M : Em Z T2.vm h7 := Or.inr ⟨ca, cb, ck, LL, Ec, Fc, Fv, Vb⟩
    have KM : Keep h7 h7 [] := Keep.refl _ _
    obtain ⟨fs, hr, hrun, hended, hEnd⟩ := X7.leaveW hS (by rw [e7]; exact hk) (v := none) (fun _ => rfl)
    refine ⟨_, _, X7.returnOut hx Bd.returns (hb hby d_jdk_42_method_149_26) hr, hfin _ _ ⟨hrun, hended, _, _, rfl, ?_, ⟨hEnd.1, hEnd.2.1, hEnd.2.2.1, hEnd.2.2.2.mono (by decide) (by decide)⟩, own_emR e7 (Em.warm M X7.warmed)⟩⟩
    show QSE2 Z a b h0 n0 _ T7.heap _
    rw [e7]
    exact ⟨cb, ck, rfl, N, K, Fw7, Fw4, Vb⟩
  · replace LL : Lit (s.setVm s.vm) "java/lang/String" 7 ca := LL
    have st9 := ldcAgain X1 hx hZ hown (hw _ (List.mem_of_getElem? (i := 19) rfl)) LL (g := (mkF m 9 #[.val (.ref a), .val (.ref b), .val (.int (0 : Int32)), .val (.int (0 : Int32)), .val .null, .unset] [(.ref a)])) rfl (hb hby d_jdk_42_method_149_9)
    refine own_go (B := T1.setTop (mkF m 11 #[.val (.ref a), .val (.ref b), .val (.int (0 : Int32)), .val (.int (0 : Int32)), .val .null, .unset] [(.ref ca), (.ref a)])) st9 ?_
    have ne_ca : ca ≠ a := Fld.ne Fv F1 (by simp)
    have ne_cb : cb ≠ a := Ne.symm (E.neArv Vb (hw _ (List.mem_of_getElem? (i := 7) rfl)))
    obtain ⟨T10, X10, e10, st10⟩ := getF X1 hx hZ hown (host := "") (Or.inl (hw _ (List.mem_of_getElem? (i := 25) rfl))) Via.refl e1 Fv (g := (mkF m 11 #[.val (.ref a), .val (.ref b), .val (.int (0 : Int32)), .val (.int (0 : Int32)), .val .null, .unset] [(.ref ca), (.ref a)])) rfl rfl (hb hby d_jdk_42_method_149_11)
    refine own_go (B := T10.setTop (mkF m 14 #[.val (.ref a), .val (.ref b), .val (.int (0 : Int32)), .val (.int (0 : Int32)), .val .null, .unset] [(.ref cb), (.ref a)])) st10 ?_
    obtain ⟨T11, h11, X11, e11, W11, st11⟩ := putF X10 hx hZ hown (host := "") (Or.inl (hw _ (List.mem_of_getElem? (i := 25) rfl))) Via.refl e10 F1 E (Or.inr ⟨(hw _ (List.mem_of_getElem? (i := 21) rfl)), rfl, hnm⟩) (hw _ (List.mem_of_getElem? (i := 7) rfl)) (ty := (.array .byte)) (by decide) rfl rfl (g := (mkF m 14 #[.val (.ref a), .val (.ref b), .val (.int (0 : Int32)), .val (.int (0 : Int32)), .val .null, .unset] [(.ref cb), (.ref a)])) rfl rfl (hb hby d_jdk_42_method_149_14)
    have Fw11 := F1.same W11
    replace E := E.wr W11
    clear F1
    replace F2 := F2.other W11 (Or.inr (slot_ne (Or.inr (hw _ (List.mem_of_getElem? (i := 22) rfl))) (Or.inr (hw _ (List.mem_of_getElem? (i := 21) rfl))) (by decide) (t := .byte) (t' := (.array .byte)) (by decide) (by decide)))
    replace Ec := Ec.wr W11
    replace Fc := Fc.other W11 (Or.inl ne_ca)
    replace Fv := Fv.other W11 (Or.inl ne_ca)
    replace Vb := Vb.other W11 ne_cb
    replace O := O.wr W11 ga
    replace hk := Nat.le_trans hk (Keep.of_wr W11).1
    replace K := K.wr W11 (Or.inl (List.mem_of_getElem? (i := 0) rfl))
    replace N := Fr.snoc X11 N ga
    refine own_go (B := T11.setTop (mkF m 17 #[.val (.ref a), .val (.ref b), .val (.int (0 : Int32)), .val (.int (0 : Int32)), .val .null, .unset] [])) st11 ?_
    refine own_go (B := T11.setTop (mkF m 18 #[.val (.ref a), .val (.ref b), .val (.int (0 : Int32)), .val (.int (0 : Int32)), .val .null, .unset] [(.ref a)])) (fun t k => ?_) ?_
    · show Steps p.tables e below (T11.setTop (mkF m 17 #[.val (.ref a), .val (.ref b), .val (.int (0 : Int32)), .val (.int (0 : Int32)), .val .null, .unset] [])) _
      refine XS.aloadN X11.here hx rfl (hb hby d_jdk_42_method_149_17) rfl rfl ?_
      show Steps p.tables e below (T11.setTop (mkF m 18 #[.val (.ref a), .val (.ref b), .val (.int (0 : Int32)), .val (.int (0 : Int32)), .val .null, .unset] [(.ref a)])) _
      exact k
    have st12 := ldcAgain X11 hx hZ hown (hw _ (List.mem_of_getElem? (i := 19) rfl)) LL (g := (mkF m 18 #[.val (.ref a), .val (.ref b), .val (.int (0 : Int32)), .val (.int (0 : Int32)), .val .null, .unset] [(.ref a)])) rfl (hb hby d_jdk_42_method_149_18)
    refine own_go (B := T11.setTop (mkF m 20 #[.val (.ref a), .val (.ref b), .val (.int (0 : Int32)), .val (.int (0 : Int32)), .val .null, .unset] [(.ref ca), (.ref a)])) st12 ?_
    obtain ⟨T13, X13, e13, st13⟩ := getF X11 hx hZ hown (host := "") (Or.inl (hw _ (List.mem_of_getElem? (i := 26) rfl))) Via.refl e11 Fc (g := (mkF m 20 #[.val (.ref a), .val (.ref b), .val (.int (0 : Int32)), .val (.int (0 : Int32)), .val .null, .unset] [(.ref ca), (.ref a)])) rfl rfl (hb hby d_jdk_42_method_149_20)
    refine own_go (B := T13.setTop (mkF m 23 #[.val (.ref a), .val (.ref b), .val (.int (0 : Int32)), .val (.int (0 : Int32)), .val .null, .unset] [(.int (0 : Int32)), (.ref a)])) st13 ?_
    obtain ⟨T14, h14, X14, e14, W14, st14⟩ := putFN X13 hx hZ hown (hw _ (List.mem_of_getElem? (i := 26) rfl)) Via.refl e13 F2 E (Or.inr ⟨(hw _ (List.mem_of_getElem? (i := 22) rfl)), rfl, hnm⟩) (hw _ (List.mem_of_getElem? (i := 7) rfl)) (ty := .byte) (v' := (.int (0 : Int32))) (by decide) rfl rfl (g := (mkF m 23 #[.val (.ref a), .val (.ref b), .val (.int (0 : Int32)), .val (.int (0 : Int32)), .val .null, .unset] [(.int (0 : Int32)), (.ref a)])) rfl rfl (hb hby d_jdk_42_method_149_23)
    have Fw14 := F2.same W14
    replace E := E.wr W14
    clear F2
    replace Ec := Ec.wr W14
    replace Fc := Fc.other W14 (Or.inl ne_ca)
    replace Fv := Fv.other W14 (Or.inl ne_ca)
    replace Vb := Vb.other W14 ne_cb
    replace Fw11 := Fw11.other W14 (Or.inr (slot_ne (Or.inr (hw _ (List.mem_of_getElem? (i := 21) rfl))) (Or.inr (hw _ (List.mem_of_getElem? (i := 22) rfl))) (by decide) (t := (.array .byte)) (t' := .byte) (by decide) (by decide)))
    replace O := O.wr W14 ga
    replace hk := Nat.le_trans hk (Keep.of_wr W14).1
    replace K := K.wr W14 (Or.inl (List.mem_of_getElem? (i := 0) rfl))
    replace N := Fr.snoc X14 N ga
    refine own_go (B := T14.setTop (mkF m 26 #[.val (.ref a), .val (.ref b), .val (.int (0 : Int32)), .val (.int (0 : Int32)), .val .null, .unset] [])) st14 ?_
    have M : Em Z s.vm h14 := Or.inr ⟨ca, cb, ck, LL, Ec, Fc, Fv, Vb⟩
    have KM : Keep h14 h14 [] := Keep.refl _ _
    obtain ⟨fs, hr, hrun, hended, hEnd⟩ := X14.leaveW hS (by rw [e14]; exact hk) (v := none) (fun _ => rfl)
    refine ⟨_, _, X14.returnOut hx Bd.returns (hb hby d_jdk_42_method_149_26) hr, hfin _ _ ⟨hrun, hended, _, _, rfl, ?_, ⟨hEnd.1, hEnd.2.1, hEnd.2.2.1, hEnd.2.2.2.mono (by decide) (by decide)⟩, own_emR e14 (Em.warm M X14.warmed)⟩⟩
    show QSE2 Z a b h0 n0 _ T14.heap _
    rw [e14]
    exact ⟨cb, ck, rfl, N, K, Fw14, Fw11, Vb⟩
def QSE1 (Z : State) (a : Addr) (b : Addr) (kc : ClassId) (vs : List Value) (dv : Value) (h0 : Heap) (n0 : Nat) (v : Option Value) (h : Heap) (L : List Loc) : Prop := ∃ t : Addr, ∃ k : ClassId, v = none ∧ Fr n0 L ∧ Keep h0 h [a] ∧ Fld Z h a "java/lang/String" "coder" "B" (.int (0 : Int32)) ∧ Fld Z h a "java/lang/String" "value" "[B" (.ref t) ∧ Arv Z h t k .byte (0 : Int32) (own_bs []) (.int (0 : Int32))
theorem ef_SE1 (m : MethodId) (a : Addr) (b : Addr) : entryFrame m #[(.ref a), (.ref b)] 2 = mkF m 0 #[.val (.ref a), .val (.ref b)] [] := by first | (simp [entryFrame, mkF, argsToLocals, Value.category]; done) | rfl | (rfl)
set_option maxRecDepth 65536 in
set_option maxHeartbeats 40000000 in
theorem rmSE1 (l : Launch) (Z : State) (a0 : Array Value) (hw : ∀ d ∈ tables_1, d.before a0 Z = true) (ws : List Jvm.Cond) (a : Addr) (b : Addr) (kc : ClassId) (vs : List Value) (dv : Value) (h0 : Heap) (n0 : Nat) (O : Old Z n0 h0) (E : Exa Z h0 a "java/lang/String") (F1 : Fld Z h0 a "java/lang/String" "value" "[B" .null) (F2 : Fld Z h0 a "java/lang/String" "coder" "B" (.int (0 : Int32))) (ga : n0 ≤ a) (V : Arv Z h0 b kc .char (0 : Int32) vs dv) (hcH : Jvm.Lit.constHeld Z "java/lang/String" 7) (hcw : Jvm.Lit.compactW.before a0 Z = true) :
    MetFree l (⟨"java/lang/String", "<init>", "([C)V"⟩ : MethodName) (head1 (Jvm.Cond.code (⟨"java/lang/String", "<init>", "([C)V"⟩ : MethodName) jdk_42_method_3_code 2 none :: ws) ({ frames := 2, cells := 2, slots := 4, locals := 29 } : Room)) (fun as_ U => as_ = #[(.ref a), (.ref b)] ∧ Z.Warmed39 U.vm ∧ U.heap = h0 ∧ Em Z U.vm h0) (fun _ _ _ _ _ => True) (fun _ U oo_ U' => ∃ vv_ LL_, oo_ = .returned vv_ ∧ QSE1 Z a b kc vs dv h0 n0 vv_ U'.heap LL_ ∧ ReturnedEndW U oo_ U' LL_ ({ frames := 2, cells := 2, slots := 4, locals := 29 } : Room).cells ({ frames := 2, cells := 2, slots := 4, locals := 29 } : Room).slots ∧ Em Z U'.vm U'.heap) := by
  refine MetFree.of_bodySF (plainFor_of_name pn_0) hisR ?_
  intro p e s m args below meth c s₁ Bd hml0 hP hK
  obtain ⟨rfl, hZ, hh, M⟩ := hP
  have hx := Bd.exec
  have hby := Bd.bytes
  have hml : c.maxLocals = 2 := hml0
  have hown : s.vm.findClass "java/lang/String" = some m.cls := findClass_of_methodNamed Bd.named
  have hnm := (name_of_methodNamed Bd.named Bd.method).1
  have X0 : Stand p l e ({ frames := 2, cells := 2, slots := 4, locals := 29 } : Room) (s.setVm s.vm) m #[(.ref a), (.ref b)] below meth c s₁ [] 0 0 := Stand.of_body Bd
  have e0 : s₁.heap = h0 := by rw [← hh, Bd.state]; rfl
  have N := Fr.nil n0
  have hown : (s.setVm s.vm).vm.findClass "java/lang/String" = some m.cls := hown
  have hZ : Z.Warmed39 (s.setVm s.vm).vm := hZ
  have hS : s.Since s.vm h0.size := (State.WarmedH.refl s).since _
  have hk : h0.size ≤ h0.size := Nat.le_refl _
  have K : Keep h0 h0 [a] := Keep.refl h0 _
  refine own_go (B := s₁.setTop (mkF m 0 #[.val (.ref a), .val (.ref b)] [])) (fun t k => castTop (ef_SE1 m a b) k) ?_
  have KM : Keep h0 h0 [] := Keep.refl h0 _
  refine own_abs (fun P hfin => ?_)
  refine own_go (B := s₁.setTop (mkF m 4 #[.val (.ref a), .val (.ref b)] [(.ref b), (.int (0 : Int32)), (.ref b), (.ref a)])) (fun t k => ?_) ?_
  · show Steps p.tables e below (s₁.setTop (mkF m 0 #[.val (.ref a), .val (.ref b)] [])) _
    refine XS.aloadN X0.here hx rfl (hb hby d_jdk_42_method_3_0) rfl rfl ?_
    show Steps p.tables e below (s₁.setTop (mkF m 1 #[.val (.ref a), .val (.ref b)] [(.ref a)])) _
    refine XS.aloadN X0.here hx rfl (hb hby d_jdk_42_method_3_1) rfl rfl ?_
    show Steps p.tables e below (s₁.setTop (mkF m 2 #[.val (.ref a), .val (.ref b)] [(.ref b), (.ref a)])) _
    refine XS.iconst X0.here hx rfl (hb hby d_jdk_42_method_3_2) ?_
    show Steps p.tables e below (s₁.setTop (mkF m 3 #[.val (.ref a), .val (.ref b)] [(.int (0 : Int32)), (.ref b), (.ref a)])) _
    refine XS.aloadN X0.here hx rfl (hb hby d_jdk_42_method_3_3) rfl rfl ?_
    show Steps p.tables e below (s₁.setTop (mkF m 4 #[.val (.ref a), .val (.ref b)] [(.ref b), (.int (0 : Int32)), (.ref b), (.ref a)])) _
    exact k
  have st1 : ∀ target, Steps p.tables e below (s₁.setTop (mkF m 5 #[.val (.ref a), .val (.ref b)] [(.int (0 : Int32)), (.int (0 : Int32)), (.ref b), (.ref a)])) target → Steps p.tables e below (s₁.setTop (mkF m 4 #[.val (.ref a), .val (.ref b)] [(.ref b), (.int (0 : Int32)), (.ref b), (.ref a)])) target := by
    obtain ⟨cl, Ar, q, Sz, Nn, Hs, Gt⟩ := V
    intro target kt
    refine X0.arraylength hx (by rw [e0]; exact Ar.1) (State.isArrayOf_alike hZ.alike Ar.2.1) (g := (mkF m 4 #[.val (.ref a), .val (.ref b)] [(.ref b), (.int (0 : Int32)), (.ref b), (.ref a)])) rfl rfl (hb hby d_jdk_42_method_3_4) _ ?_
    rw [len_of Sz Nn]
    exact kt
  refine own_go (B := s₁.setTop (mkF m 5 #[.val (.ref a), .val (.ref b)] [(.int (0 : Int32)), (.int (0 : Int32)), (.ref b), (.ref a)])) st1 ?_
  refine own_go (B := s₁.setTop (mkF m 6 #[.val (.ref a), .val (.ref b)] [.null, (.int (0 : Int32)), (.int (0 : Int32)), (.ref b), (.ref a)])) (fun t k => ?_) ?_
  · show Steps p.tables e below (s₁.setTop (mkF m 5 #[.val (.ref a), .val (.ref b)] [(.int (0 : Int32)), (.int (0 : Int32)), (.ref b), (.ref a)])) _
    refine XS.aconstNull X0.here hx rfl (hb hby d_jdk_42_method_3_5) ?_
    show Steps p.tables e below (s₁.setTop (mkF m 6 #[.val (.ref a), .val (.ref b)] [.null, (.int (0 : Int32)), (.int (0 : Int32)), (.ref b), (.ref a)])) _
    exact k
  clear V
  -- pc 6: java/lang/String.<init>
  obtain ⟨_, _, ⟨T2, L2, k2, n2⟩, -, X2, hSq2, hgq2, ⟨Lc2, hQ2, l2, y2, z2⟩, st2⟩ := X0.specialBackS hx (y := (⟨"java/lang/String", "<init>", "([CIILjava/lang/Void;)V"⟩ : MethodName)) rfl hown (mvT hZ (hw _ (List.mem_of_getElem? (i := 12) rfl))) (mvT hZ (hw _ (List.mem_of_getElem? (i := 13) rfl))) (mvT hZ (hw _ (List.mem_of_getElem? (i := 15) rfl))) (by decide) (own_backOfE (W := 0) (rmSE2 l Z a0 hw [] a b h0 n0 O E F1 F2 ga hcH hcw) hZ (hw _ (List.mem_of_getElem? (i := 15) rfl)) (hw _ (List.mem_of_getElem? (i := 8) rfl)) (by decide) (by decide)) (g := (mkF m 6 #[.val (.ref a), .val (.ref b)] [.null, (.int (0 : Int32)), (.int (0 : Int32)), (.ref b), (.ref a)])) rfl (by rw [hml]; rfl) (Steps.refl _) (a := a) (argsL := [(.ref b), (.int (0 : Int32)), (.int (0 : Int32)), .null]) (rest := []) (lenOf pd_0 rfl) rfl (by show 2 * 0 + _ ≤ _; exact Nat.le_of_eq rfl) (hb hby d_jdk_42_method_3_6) (fun _ hWm => ⟨rfl, e0, (by decide : 0 + 2 ≤ _), (by decide : 0 + 4 ≤ _), Em.warm M hWm⟩)
  dsimp only [Pt.U, Pt.locs, Pt.cells, Pt.slots] at X2 l2 y2 z2 st2 hQ2 hSq2 hgq2
  subst l2 y2 z2
  obtain ⟨X2, hS, hZ, hown⟩ := rebS hS (by rw [e0]; exact hk) X2 hSq2 hgq2 hZ hown
  obtain ⟨⟨t2, k2, rfl, Nq2, Kq2, Gq2_0, Gq2_1, Gq2_2⟩, M⟩ := hQ2
  replace N := Fr.app N Nq2
  replace E := E.keep Kq2
  clear F1
  clear F2
  replace O := O.keep Kq2 (allS ga all0)
  replace K := K.trans Kq2 (allS (Or.inl (List.mem_of_getElem? (i := 0) rfl)) all0)
  have hk : T2.heap.size ≤ T2.heap.size := Nat.le_refl _
  have KM : Keep T2.heap T2.heap [] := Keep.refl _ _
  refine own_go (B := T2.setTop (mkF m 9 #[.val (.ref a), .val (.ref b)] [])) (fun t k => st2.trans k) ?_
  obtain ⟨fs, hr, hrun, hended, hEnd⟩ := X2.leaveW hS hk (v := none) (fun _ => rfl)
  refine ⟨_, _, X2.returnOut hx Bd.returns (hb hby d_jdk_42_method_3_9) hr, hfin _ _ ⟨hrun, hended, _, _, rfl, ?_, ⟨hEnd.1, hEnd.2.1, hEnd.2.2.1, hEnd.2.2.2.mono (by decide) (by decide)⟩, own_emR rfl (Em.warm M X2.warmed)⟩⟩
  show QSE1 Z a b kc vs dv h0 n0 _ T2.heap _
  exact ⟨t2, k2, rfl, N, K, Gq2_0, Gq2_1, Gq2_2⟩
def QLet (Z : State) (p1 : Int32) (h0 : Heap) (n0 : Nat) (v : Option Value) (h : Heap) (L : List Loc) : Prop := ∃ b : Int32, v = some (.int b) ∧ Fr n0 L ∧ h = h0 ∧ (own_let p1 → b = (1 : Int32)) ∧ (¬ own_let p1 → b = (0 : Int32))
theorem ef_Let (m : MethodId) (p1 : Int32) : entryFrame m #[(.int p1)] 1 = mkF m 0 #[.val (.int p1)] [] := by first | (simp [entryFrame, mkF, argsToLocals, Value.category]; done) | rfl | (rfl)
set_option maxRecDepth 65536 in
set_option maxHeartbeats 40000000 in
theorem rmLet (l : Launch) (Z : State) (a0 : Array Value) (hw : ∀ d ∈ tables_1, d.before a0 Z = true) (ws : List Jvm.Cond) (p1 : Int32) (h0 : Heap) (n0 : Nat) (O : Old Z n0 h0)  :
    MetFree l (⟨"org/bindery/IriIsAbsolutePinLaw", "letter", "(C)Z"⟩ : MethodName) (head1 (Jvm.Cond.code (⟨"org/bindery/IriIsAbsolutePinLaw", "letter", "(C)Z"⟩ : MethodName) method_4_code 1 (some .boolean) :: ws) ({ frames := 0, cells := 0, slots := 0, locals := 0 } : Room)) (fun as_ U => as_ = #[(.int p1)] ∧ Z.Warmed39 U.vm ∧ U.heap = h0) (fun _ _ _ _ _ => True) (fun _ U oo_ U' => ∃ vv_ LL_, oo_ = .returned vv_ ∧ QLet Z p1 h0 n0 vv_ U'.heap LL_ ∧ FrameEnd U oo_ U' LL_ ({ frames := 0, cells := 0, slots := 0, locals := 0 } : Room).cells ({ frames := 0, cells := 0, slots := 0, locals := 0 } : Room).slots) := by
  refine MetFree.of_bodySF (plainFor_of_name pn_1) hisR ?_
  intro p e s m args below meth c s₁ Bd hml0 hP hK
  obtain ⟨rfl, hZ, hh⟩ := hP
  have hx := Bd.exec
  have hby := Bd.bytes
  have hml : c.maxLocals = 1 := hml0
  have hown : s.vm.findClass "org/bindery/IriIsAbsolutePinLaw" = some m.cls := findClass_of_methodNamed Bd.named
  have hnm := (name_of_methodNamed Bd.named Bd.method).1
  have X0 : Stand p l e ({ frames := 0, cells := 0, slots := 0, locals := 0 } : Room) s m #[(.int p1)] below meth c s₁ [] 0 0 := Stand.of_body Bd
  have e0 : s₁.heap = h0 := by rw [← hh, Bd.state]; rfl
  have N := Fr.nil n0
  have K : Keep h0 h0 [] := Keep.refl h0 _
  refine own_go (B := s₁.setTop (mkF m 0 #[.val (.int p1)] [])) (fun t k => castTop (ef_Let m p1) k) ?_
  refine own_abs (fun P hfin => ?_)
  refine own_go (B := s₁.setTop (mkF m 3 #[.val (.int p1)] [(.int (65 : Int32)), (.int p1)])) (fun t k => ?_) ?_
  · show Steps p.tables e below (s₁.setTop (mkF m 0 #[.val (.int p1)] [])) _
    refine XS.iloadN X0.here hx rfl (hb hby d_method_4_0) rfl ?_
    show Steps p.tables e below (s₁.setTop (mkF m 1 #[.val (.int p1)] [(.int p1)])) _
    refine XS.bipush X0.here hx rfl (hb hby d_method_4_1) ?_
    show Steps p.tables e below (s₁.setTop (mkF m 3 #[.val (.int p1)] [(.int (65 : Int32)), (.int p1)])) _
    exact k
  by_cases s3 : p1 < (65 : Int32)
  · refine own_go (B := s₁.setTop (mkF m 15 #[.val (.int p1)] [(.int (97 : Int32)), (.int p1)])) (fun t k => ?_) ?_
    · show Steps p.tables e below (s₁.setTop (mkF m 3 #[.val (.int p1)] [(.int (65 : Int32)), (.int p1)])) _
      refine XS.icmpYes X0.here hx rfl (pc0 := 3) (pc' := 12) rfl (hb hby d_method_4_3) rfl (tlt s3).1 (by decide) (by decide) ?_
      show Steps p.tables e below (s₁.setTop (mkF m 12 #[.val (.int p1)] [])) _
      refine XS.iloadN X0.here hx rfl (hb hby d_method_4_12) rfl ?_
      show Steps p.tables e below (s₁.setTop (mkF m 13 #[.val (.int p1)] [(.int p1)])) _
      refine XS.bipush X0.here hx rfl (hb hby d_method_4_13) ?_
      show Steps p.tables e below (s₁.setTop (mkF m 15 #[.val (.int p1)] [(.int (97 : Int32)), (.int p1)])) _
      exact k
    by_cases s15 : p1 < (97 : Int32)
    · refine own_go (B := s₁.setTop (mkF m 29 #[.val (.int p1)] [(.int (0 : Int32))])) (fun t k => ?_) ?_
      · show Steps p.tables e below (s₁.setTop (mkF m 15 #[.val (.int p1)] [(.int (97 : Int32)), (.int p1)])) _
        refine XS.icmpYes X0.here hx rfl (pc0 := 15) (pc' := 28) rfl (hb hby d_method_4_15) rfl (tlt s15).1 (by decide) (by decide) ?_
        show Steps p.tables e below (s₁.setTop (mkF m 28 #[.val (.int p1)] [])) _
        refine XS.iconst X0.here hx rfl (hb hby d_method_4_28) ?_
        show Steps p.tables e below (s₁.setTop (mkF m 29 #[.val (.int p1)] [(.int (0 : Int32))])) _
        exact k
      obtain ⟨fs, hr, hrun, hended, hW, hsame⟩ := X0.leave (v := some (.int (0 : Int32))) (fun h => by rw [Bd.returns] at h; cases h)
      refine ⟨_, _, retN X0 hx (t := .boolean) Bd.returns (by simp) (hb hby d_method_4_29) hr, hfin _ _ ⟨hrun, hended, _, _, rfl, ?_, ⟨_, rfl⟩, hW, hsame.mono (by decide) (by decide)⟩⟩
      show QLet Z p1 h0 n0 _ s₁.heap _
      exact ⟨(0 : Int32), rfl, N, e0, (fun qq_ => absurd qq_ (fun z0 => z0.elim (fun z1 => (fun z2 => z2 s3) z1.1) (fun z1 => (fun z2 => z2 s15) z1.1))), (fun _ => rfl)⟩
    · refine own_go (B := s₁.setTop (mkF m 21 #[.val (.int p1)] [(.int (122 : Int32)), (.int p1)])) (fun t k => ?_) ?_
      · show Steps p.tables e below (s₁.setTop (mkF m 15 #[.val (.int p1)] [(.int (97 : Int32)), (.int p1)])) _
        refine XS.icmpNo X0.here hx rfl (hb hby d_method_4_15) rfl (flt s15).1 ?_
        show Steps p.tables e below (s₁.setTop (mkF m 18 #[.val (.int p1)] [])) _
        refine XS.iloadN X0.here hx rfl (hb hby d_method_4_18) rfl ?_
        show Steps p.tables e below (s₁.setTop (mkF m 19 #[.val (.int p1)] [(.int p1)])) _
        refine XS.bipush X0.here hx rfl (hb hby d_method_4_19) ?_
        show Steps p.tables e below (s₁.setTop (mkF m 21 #[.val (.int p1)] [(.int (122 : Int32)), (.int p1)])) _
        exact k
      by_cases s21 : (122 : Int32) < p1
      · refine own_go (B := s₁.setTop (mkF m 29 #[.val (.int p1)] [(.int (0 : Int32))])) (fun t k => ?_) ?_
        · show Steps p.tables e below (s₁.setTop (mkF m 21 #[.val (.int p1)] [(.int (122 : Int32)), (.int p1)])) _
          refine XS.icmpYes X0.here hx rfl (pc0 := 21) (pc' := 28) rfl (hb hby d_method_4_21) rfl (tlt s21).2.2.1 (by decide) (by decide) ?_
          show Steps p.tables e below (s₁.setTop (mkF m 28 #[.val (.int p1)] [])) _
          refine XS.iconst X0.here hx rfl (hb hby d_method_4_28) ?_
          show Steps p.tables e below (s₁.setTop (mkF m 29 #[.val (.int p1)] [(.int (0 : Int32))])) _
          exact k
        obtain ⟨fs, hr, hrun, hended, hW, hsame⟩ := X0.leave (v := some (.int (0 : Int32))) (fun h => by rw [Bd.returns] at h; cases h)
        refine ⟨_, _, retN X0 hx (t := .boolean) Bd.returns (by simp) (hb hby d_method_4_29) hr, hfin _ _ ⟨hrun, hended, _, _, rfl, ?_, ⟨_, rfl⟩, hW, hsame.mono (by decide) (by decide)⟩⟩
        show QLet Z p1 h0 n0 _ s₁.heap _
        exact ⟨(0 : Int32), rfl, N, e0, (fun qq_ => absurd qq_ (fun z0 => z0.elim (fun z1 => (fun z2 => z2 s3) z1.1) (fun z1 => (fun z2 => z2 s21) z1.2))), (fun _ => rfl)⟩
      · refine own_go (B := s₁.setTop (mkF m 29 #[.val (.int p1)] [(.int (1 : Int32))])) (fun t k => ?_) ?_
        · show Steps p.tables e below (s₁.setTop (mkF m 21 #[.val (.int p1)] [(.int (122 : Int32)), (.int p1)])) _
          refine XS.icmpNo X0.here hx rfl (hb hby d_method_4_21) rfl (flt s21).2.2.1 ?_
          show Steps p.tables e below (s₁.setTop (mkF m 24 #[.val (.int p1)] [])) _
          refine XS.iconst X0.here hx rfl (hb hby d_method_4_24) ?_
          show Steps p.tables e below (s₁.setTop (mkF m 25 #[.val (.int p1)] [(.int (1 : Int32))])) _
          refine XS.goto X0.here hx rfl (pc0 := 25) (pc' := 29) rfl (hb hby d_method_4_25) (by decide) (by decide) ?_
          show Steps p.tables e below (s₁.setTop (mkF m 29 #[.val (.int p1)] [(.int (1 : Int32))])) _
          exact k
        obtain ⟨fs, hr, hrun, hended, hW, hsame⟩ := X0.leave (v := some (.int (1 : Int32))) (fun h => by rw [Bd.returns] at h; cases h)
        refine ⟨_, _, retN X0 hx (t := .boolean) Bd.returns (by simp) (hb hby d_method_4_29) hr, hfin _ _ ⟨hrun, hended, _, _, rfl, ?_, ⟨_, rfl⟩, hW, hsame.mono (by decide) (by decide)⟩⟩
        show QLet Z p1 h0 n0 _ s₁.heap _
        exact ⟨(1 : Int32), rfl, N, e0, (fun _ => rfl), (fun qq_ => absurd (show _ from (Or.inr ⟨s15, s21⟩)) qq_)⟩
  · refine own_go (B := s₁.setTop (mkF m 9 #[.val (.int p1)] [(.int (90 : Int32)), (.int p1)])) (fun t k => ?_) ?_
    · show Steps p.tables e below (s₁.setTop (mkF m 3 #[.val (.int p1)] [(.int (65 : Int32)), (.int p1)])) _
      refine XS.icmpNo X0.here hx rfl (hb hby d_method_4_3) rfl (flt s3).1 ?_
      show Steps p.tables e below (s₁.setTop (mkF m 6 #[.val (.int p1)] [])) _
      refine XS.iloadN X0.here hx rfl (hb hby d_method_4_6) rfl ?_
      show Steps p.tables e below (s₁.setTop (mkF m 7 #[.val (.int p1)] [(.int p1)])) _
      refine XS.bipush X0.here hx rfl (hb hby d_method_4_7) ?_
      show Steps p.tables e below (s₁.setTop (mkF m 9 #[.val (.int p1)] [(.int (90 : Int32)), (.int p1)])) _
      exact k
    by_cases s9 : (90 : Int32) < p1
    · refine own_go (B := s₁.setTop (mkF m 15 #[.val (.int p1)] [(.int (97 : Int32)), (.int p1)])) (fun t k => ?_) ?_
      · show Steps p.tables e below (s₁.setTop (mkF m 9 #[.val (.int p1)] [(.int (90 : Int32)), (.int p1)])) _
        refine XS.icmpNo X0.here hx rfl (hb hby d_method_4_9) rfl (tlt s9).2.2.2 ?_
        show Steps p.tables e below (s₁.setTop (mkF m 12 #[.val (.int p1)] [])) _
        refine XS.iloadN X0.here hx rfl (hb hby d_method_4_12) rfl ?_
        show Steps p.tables e below (s₁.setTop (mkF m 13 #[.val (.int p1)] [(.int p1)])) _
        refine XS.bipush X0.here hx rfl (hb hby d_method_4_13) ?_
        show Steps p.tables e below (s₁.setTop (mkF m 15 #[.val (.int p1)] [(.int (97 : Int32)), (.int p1)])) _
        exact k
      by_cases s15 : p1 < (97 : Int32)
      · refine own_go (B := s₁.setTop (mkF m 29 #[.val (.int p1)] [(.int (0 : Int32))])) (fun t k => ?_) ?_
        · show Steps p.tables e below (s₁.setTop (mkF m 15 #[.val (.int p1)] [(.int (97 : Int32)), (.int p1)])) _
          refine XS.icmpYes X0.here hx rfl (pc0 := 15) (pc' := 28) rfl (hb hby d_method_4_15) rfl (tlt s15).1 (by decide) (by decide) ?_
          show Steps p.tables e below (s₁.setTop (mkF m 28 #[.val (.int p1)] [])) _
          refine XS.iconst X0.here hx rfl (hb hby d_method_4_28) ?_
          show Steps p.tables e below (s₁.setTop (mkF m 29 #[.val (.int p1)] [(.int (0 : Int32))])) _
          exact k
        obtain ⟨fs, hr, hrun, hended, hW, hsame⟩ := X0.leave (v := some (.int (0 : Int32))) (fun h => by rw [Bd.returns] at h; cases h)
        refine ⟨_, _, retN X0 hx (t := .boolean) Bd.returns (by simp) (hb hby d_method_4_29) hr, hfin _ _ ⟨hrun, hended, _, _, rfl, ?_, ⟨_, rfl⟩, hW, hsame.mono (by decide) (by decide)⟩⟩
        show QLet Z p1 h0 n0 _ s₁.heap _
        exact ⟨(0 : Int32), rfl, N, e0, (fun qq_ => absurd qq_ (fun z0 => z0.elim (fun z1 => (fun z2 => z2 s9) z1.2) (fun z1 => (fun z2 => z2 s15) z1.1))), (fun _ => rfl)⟩
      · refine own_go (B := s₁.setTop (mkF m 21 #[.val (.int p1)] [(.int (122 : Int32)), (.int p1)])) (fun t k => ?_) ?_
        · show Steps p.tables e below (s₁.setTop (mkF m 15 #[.val (.int p1)] [(.int (97 : Int32)), (.int p1)])) _
          refine XS.icmpNo X0.here hx rfl (hb hby d_method_4_15) rfl (flt s15).1 ?_
          show Steps p.tables e below (s₁.setTop (mkF m 18 #[.val (.int p1)] [])) _
          refine XS.iloadN X0.here hx rfl (hb hby d_method_4_18) rfl ?_
          show Steps p.tables e below (s₁.setTop (mkF m 19 #[.val (.int p1)] [(.int p1)])) _
          refine XS.bipush X0.here hx rfl (hb hby d_method_4_19) ?_
          show Steps p.tables e below (s₁.setTop (mkF m 21 #[.val (.int p1)] [(.int (122 : Int32)), (.int p1)])) _
          exact k
        by_cases s21 : (122 : Int32) < p1
        · refine own_go (B := s₁.setTop (mkF m 29 #[.val (.int p1)] [(.int (0 : Int32))])) (fun t k => ?_) ?_
          · show Steps p.tables e below (s₁.setTop (mkF m 21 #[.val (.int p1)] [(.int (122 : Int32)), (.int p1)])) _
            refine XS.icmpYes X0.here hx rfl (pc0 := 21) (pc' := 28) rfl (hb hby d_method_4_21) rfl (tlt s21).2.2.1 (by decide) (by decide) ?_
            show Steps p.tables e below (s₁.setTop (mkF m 28 #[.val (.int p1)] [])) _
            refine XS.iconst X0.here hx rfl (hb hby d_method_4_28) ?_
            show Steps p.tables e below (s₁.setTop (mkF m 29 #[.val (.int p1)] [(.int (0 : Int32))])) _
            exact k
          obtain ⟨fs, hr, hrun, hended, hW, hsame⟩ := X0.leave (v := some (.int (0 : Int32))) (fun h => by rw [Bd.returns] at h; cases h)
          refine ⟨_, _, retN X0 hx (t := .boolean) Bd.returns (by simp) (hb hby d_method_4_29) hr, hfin _ _ ⟨hrun, hended, _, _, rfl, ?_, ⟨_, rfl⟩, hW, hsame.mono (by decide) (by decide)⟩⟩
          show QLet Z p1 h0 n0 _ s₁.heap _
          exact ⟨(0 : Int32), rfl, N, e0, (fun qq_ => absurd qq_ (fun z0 => z0.elim (fun z1 => (fun z2 => z2 s9) z1.2) (fun z1 => (fun z2 => z2 s21) z1.2))), (fun _ => rfl)⟩
        · refine own_go (B := s₁.setTop (mkF m 29 #[.val (.int p1)] [(.int (1 : Int32))])) (fun t k => ?_) ?_
          · show Steps p.tables e below (s₁.setTop (mkF m 21 #[.val (.int p1)] [(.int (122 : Int32)), (.int p1)])) _
            refine XS.icmpNo X0.here hx rfl (hb hby d_method_4_21) rfl (flt s21).2.2.1 ?_
            show Steps p.tables e below (s₁.setTop (mkF m 24 #[.val (.int p1)] [])) _
            refine XS.iconst X0.here hx rfl (hb hby d_method_4_24) ?_
            show Steps p.tables e below (s₁.setTop (mkF m 25 #[.val (.int p1)] [(.int (1 : Int32))])) _
            refine XS.goto X0.here hx rfl (pc0 := 25) (pc' := 29) rfl (hb hby d_method_4_25) (by decide) (by decide) ?_
            show Steps p.tables e below (s₁.setTop (mkF m 29 #[.val (.int p1)] [(.int (1 : Int32))])) _
            exact k
          obtain ⟨fs, hr, hrun, hended, hW, hsame⟩ := X0.leave (v := some (.int (1 : Int32))) (fun h => by rw [Bd.returns] at h; cases h)
          refine ⟨_, _, retN X0 hx (t := .boolean) Bd.returns (by simp) (hb hby d_method_4_29) hr, hfin _ _ ⟨hrun, hended, _, _, rfl, ?_, ⟨_, rfl⟩, hW, hsame.mono (by decide) (by decide)⟩⟩
          show QLet Z p1 h0 n0 _ s₁.heap _
          exact ⟨(1 : Int32), rfl, N, e0, (fun _ => rfl), (fun qq_ => absurd (show _ from (Or.inr ⟨s15, s21⟩)) qq_)⟩
    · refine own_go (B := s₁.setTop (mkF m 29 #[.val (.int p1)] [(.int (1 : Int32))])) (fun t k => ?_) ?_
      · show Steps p.tables e below (s₁.setTop (mkF m 9 #[.val (.int p1)] [(.int (90 : Int32)), (.int p1)])) _
        refine XS.icmpYes X0.here hx rfl (pc0 := 9) (pc' := 24) rfl (hb hby d_method_4_9) rfl (flt s9).2.2.2 (by decide) (by decide) ?_
        show Steps p.tables e below (s₁.setTop (mkF m 24 #[.val (.int p1)] [])) _
        refine XS.iconst X0.here hx rfl (hb hby d_method_4_24) ?_
        show Steps p.tables e below (s₁.setTop (mkF m 25 #[.val (.int p1)] [(.int (1 : Int32))])) _
        refine XS.goto X0.here hx rfl (pc0 := 25) (pc' := 29) rfl (hb hby d_method_4_25) (by decide) (by decide) ?_
        show Steps p.tables e below (s₁.setTop (mkF m 29 #[.val (.int p1)] [(.int (1 : Int32))])) _
        exact k
      obtain ⟨fs, hr, hrun, hended, hW, hsame⟩ := X0.leave (v := some (.int (1 : Int32))) (fun h => by rw [Bd.returns] at h; cases h)
      refine ⟨_, _, retN X0 hx (t := .boolean) Bd.returns (by simp) (hb hby d_method_4_29) hr, hfin _ _ ⟨hrun, hended, _, _, rfl, ?_, ⟨_, rfl⟩, hW, hsame.mono (by decide) (by decide)⟩⟩
      show QLet Z p1 h0 n0 _ s₁.heap _
      exact ⟨(1 : Int32), rfl, N, e0, (fun _ => rfl), (fun qq_ => absurd (show _ from (Or.inl ⟨s3, s9⟩)) qq_)⟩
def QLat (Z : State) (p1 : Int32) (h0 : Heap) (n0 : Nat) (v : Option Value) (h : Heap) (L : List Loc) : Prop := ∃ b : Int32, v = some (.int b) ∧ Fr n0 L ∧ h = h0 ∧ (own_lat p1 → b = (1 : Int32)) ∧ (¬ own_lat p1 → b = (0 : Int32))
theorem ef_Lat (m : MethodId) (p1 : Int32) : entryFrame m #[(.int p1)] 1 = mkF m 0 #[.val (.int p1)] [] := by first | (simp [entryFrame, mkF, argsToLocals, Value.category]; done) | rfl | (rfl)
set_option maxRecDepth 65536 in
set_option maxHeartbeats 40000000 in
theorem rmLat (l : Launch) (Z : State) (a0 : Array Value) (hw : ∀ d ∈ tables_1, d.before a0 Z = true) (ws : List Jvm.Cond) (p1 : Int32) (h0 : Heap) (n0 : Nat) (O : Old Z n0 h0)  :
    MetFree l (⟨"org/bindery/IriIsAbsolutePinLaw", "later", "(C)Z"⟩ : MethodName) (head1 (Jvm.Cond.code (⟨"org/bindery/IriIsAbsolutePinLaw", "later", "(C)Z"⟩ : MethodName) method_5_code 1 (some .boolean) :: ws) ({ frames := 1, cells := 0, slots := 0, locals := 12 } : Room)) (fun as_ U => as_ = #[(.int p1)] ∧ Z.Warmed39 U.vm ∧ U.heap = h0) (fun _ _ _ _ _ => True) (fun _ U oo_ U' => ∃ vv_ LL_, oo_ = .returned vv_ ∧ QLat Z p1 h0 n0 vv_ U'.heap LL_ ∧ FrameEnd U oo_ U' LL_ ({ frames := 1, cells := 0, slots := 0, locals := 12 } : Room).cells ({ frames := 1, cells := 0, slots := 0, locals := 12 } : Room).slots) := by
  refine MetFree.of_bodySF (plainFor_of_name pn_1) hisR ?_
  intro p e s m args below meth c s₁ Bd hml0 hP hK
  obtain ⟨rfl, hZ, hh⟩ := hP
  have hx := Bd.exec
  have hby := Bd.bytes
  have hml : c.maxLocals = 1 := hml0
  have hown : s.vm.findClass "org/bindery/IriIsAbsolutePinLaw" = some m.cls := findClass_of_methodNamed Bd.named
  have hnm := (name_of_methodNamed Bd.named Bd.method).1
  have X0 : Stand p l e ({ frames := 1, cells := 0, slots := 0, locals := 12 } : Room) s m #[(.int p1)] below meth c s₁ [] 0 0 := Stand.of_body Bd
  have e0 : s₁.heap = h0 := by rw [← hh, Bd.state]; rfl
  have N := Fr.nil n0
  have K : Keep h0 h0 [] := Keep.refl h0 _
  refine own_go (B := s₁.setTop (mkF m 0 #[.val (.int p1)] [])) (fun t k => castTop (ef_Lat m p1) k) ?_
  refine own_abs (fun P hfin => ?_)
  refine own_go (B := s₁.setTop (mkF m 1 #[.val (.int p1)] [(.int p1)])) (fun t k => ?_) ?_
  · show Steps p.tables e below (s₁.setTop (mkF m 0 #[.val (.int p1)] [])) _
    refine XS.iloadN X0.here hx rfl (hb hby d_method_5_0) rfl ?_
    show Steps p.tables e below (s₁.setTop (mkF m 1 #[.val (.int p1)] [(.int p1)])) _
    exact k
  -- pc 1: org/bindery/IriIsAbsolutePinLaw.letter
  obtain ⟨_, _, ⟨T1, L1, k1, n1⟩, -, X1, ⟨Lc1, hQ1, l1, y1, z1⟩, st1⟩ := Jvm.LawKit.callS X0 hx (y := (⟨"org/bindery/IriIsAbsolutePinLaw", "letter", "(C)Z"⟩ : MethodName)) hown (mvT hZ (hw _ (List.mem_of_getElem? (i := 55) rfl))) (mvT hZ (hw _ (List.mem_of_getElem? (i := 56) rfl))) (mvT hZ (hw _ (List.mem_of_getElem? (i := 4) rfl))) (mvT hZ (hw _ (List.mem_of_getElem? (i := 57) rfl))) (by decide) (backOf (W := 0) (rmLet l Z a0 hw [] p1 h0 n0 O ) hZ (hw _ (List.mem_of_getElem? (i := 57) rfl)) (hw _ (List.mem_of_getElem? (i := 4) rfl)) (by decide) (by decide)) (g := (mkF m 1 #[.val (.int p1)] [(.int p1)])) rfl (by rw [hml]; rfl) (argsL := [(.int p1)]) (rest := []) (lenOf pd_1 rfl) rfl (by show 2 * 0 + _ ≤ _; exact Nat.le_of_eq rfl) (hb hby d_method_5_1) (fun _ hWm => ⟨rfl, e0, (by decide : 0 + 0 ≤ _), (by decide : 0 + 0 ≤ _)⟩)
  dsimp only [Pt.U, Pt.locs, Pt.cells, Pt.slots] at X1 l1 y1 z1 st1 hQ1
  subst l1 y1 z1
  obtain ⟨b1, rfl, Nq1, Kq1, cq1_0, cq1_1⟩ := hQ1
  replace N := Fr.app N Nq1
  refine own_go (B := T1.setTop (mkF m 4 #[.val (.int p1)] [(.int b1)])) st1 ?_
  by_cases q : own_let p1
  · refine own_go (B := T1.setTop (mkF m 42 #[.val (.int p1)] [(.int (1 : Int32))])) (fun t k => ?_) ?_
    · show Steps p.tables e below (T1.setTop (mkF m 4 #[.val (.int p1)] [(.int b1)])) _
      refine XS.ifYes X1.here hx rfl (pc0 := 4) (pc' := 37) rfl (hb hby d_method_5_4) rfl ((if0 _ _).trans (feq (by rw [cq1_0 q]; decide)).2) (by decide) (by decide) ?_
      show Steps p.tables e below (T1.setTop (mkF m 37 #[.val (.int p1)] [])) _
      refine XS.iconst X1.here hx rfl (hb hby d_method_5_37) ?_
      show Steps p.tables e below (T1.setTop (mkF m 38 #[.val (.int p1)] [(.int (1 : Int32))])) _
      refine XS.goto X1.here hx rfl (pc0 := 38) (pc' := 42) rfl (hb hby d_method_5_38) (by decide) (by decide) ?_
      show Steps p.tables e below (T1.setTop (mkF m 42 #[.val (.int p1)] [(.int (1 : Int32))])) _
      exact k
    obtain ⟨fs, hr, hrun, hended, hW, hsame⟩ := X1.leave (v := some (.int (1 : Int32))) (fun h => by rw [Bd.returns] at h; cases h)
    refine ⟨_, _, retN X1 hx (t := .boolean) Bd.returns (by simp) (hb hby d_method_5_42) hr, hfin _ _ ⟨hrun, hended, _, _, rfl, ?_, ⟨_, rfl⟩, hW, hsame.mono (by decide) (by decide)⟩⟩
    show QLat Z p1 h0 n0 _ T1.heap _
    exact ⟨(1 : Int32), rfl, N, Kq1, (fun _ => rfl), (fun qq_ => absurd (show _ from (Or.inl q)) qq_)⟩
  · refine own_go (B := T1.setTop (mkF m 10 #[.val (.int p1)] [(.int (48 : Int32)), (.int p1)])) (fun t k => ?_) ?_
    · show Steps p.tables e below (T1.setTop (mkF m 4 #[.val (.int p1)] [(.int b1)])) _
      refine XS.ifNo X1.here hx rfl (hb hby d_method_5_4) rfl ((if0 _ _).trans (teq (cq1_1 q)).2) ?_
      show Steps p.tables e below (T1.setTop (mkF m 7 #[.val (.int p1)] [])) _
      refine XS.iloadN X1.here hx rfl (hb hby d_method_5_7) rfl ?_
      show Steps p.tables e below (T1.setTop (mkF m 8 #[.val (.int p1)] [(.int p1)])) _
      refine XS.bipush X1.here hx rfl (hb hby d_method_5_8) ?_
      show Steps p.tables e below (T1.setTop (mkF m 10 #[.val (.int p1)] [(.int (48 : Int32)), (.int p1)])) _
      exact k
    by_cases s10 : p1 < (48 : Int32)
    · refine own_go (B := T1.setTop (mkF m 22 #[.val (.int p1)] [(.int (43 : Int32)), (.int p1)])) (fun t k => ?_) ?_
      · show Steps p.tables e below (T1.setTop (mkF m 10 #[.val (.int p1)] [(.int (48 : Int32)), (.int p1)])) _
        refine XS.icmpYes X1.here hx rfl (pc0 := 10) (pc' := 19) rfl (hb hby d_method_5_10) rfl (tlt s10).1 (by decide) (by decide) ?_
        show Steps p.tables e below (T1.setTop (mkF m 19 #[.val (.int p1)] [])) _
        refine XS.iloadN X1.here hx rfl (hb hby d_method_5_19) rfl ?_
        show Steps p.tables e below (T1.setTop (mkF m 20 #[.val (.int p1)] [(.int p1)])) _
        refine XS.bipush X1.here hx rfl (hb hby d_method_5_20) ?_
        show Steps p.tables e below (T1.setTop (mkF m 22 #[.val (.int p1)] [(.int (43 : Int32)), (.int p1)])) _
        exact k
      by_cases s22 : p1 = (43 : Int32)
      · refine own_go (B := T1.setTop (mkF m 42 #[.val (.int p1)] [(.int (1 : Int32))])) (fun t k => ?_) ?_
        · show Steps p.tables e below (T1.setTop (mkF m 22 #[.val (.int p1)] [(.int (43 : Int32)), (.int p1)])) _
          refine XS.icmpYes X1.here hx rfl (pc0 := 22) (pc' := 37) rfl (hb hby d_method_5_22) rfl (teq s22).1 (by decide) (by decide) ?_
          show Steps p.tables e below (T1.setTop (mkF m 37 #[.val (.int p1)] [])) _
          refine XS.iconst X1.here hx rfl (hb hby d_method_5_37) ?_
          show Steps p.tables e below (T1.setTop (mkF m 38 #[.val (.int p1)] [(.int (1 : Int32))])) _
          refine XS.goto X1.here hx rfl (pc0 := 38) (pc' := 42) rfl (hb hby d_method_5_38) (by decide) (by decide) ?_
          show Steps p.tables e below (T1.setTop (mkF m 42 #[.val (.int p1)] [(.int (1 : Int32))])) _
          exact k
        obtain ⟨fs, hr, hrun, hended, hW, hsame⟩ := X1.leave (v := some (.int (1 : Int32))) (fun h => by rw [Bd.returns] at h; cases h)
        refine ⟨_, _, retN X1 hx (t := .boolean) Bd.returns (by simp) (hb hby d_method_5_42) hr, hfin _ _ ⟨hrun, hended, _, _, rfl, ?_, ⟨_, rfl⟩, hW, hsame.mono (by decide) (by decide)⟩⟩
        show QLat Z p1 h0 n0 _ T1.heap _
        exact ⟨(1 : Int32), rfl, N, Kq1, (fun _ => rfl), (fun qq_ => absurd (show _ from (Or.inr (Or.inr (Or.inl s22)))) qq_)⟩
      · refine own_go (B := T1.setTop (mkF m 28 #[.val (.int p1)] [(.int (45 : Int32)), (.int p1)])) (fun t k => ?_) ?_
        · show Steps p.tables e below (T1.setTop (mkF m 22 #[.val (.int p1)] [(.int (43 : Int32)), (.int p1)])) _
          refine XS.icmpNo X1.here hx rfl (hb hby d_method_5_22) rfl (feq s22).1 ?_
          show Steps p.tables e below (T1.setTop (mkF m 25 #[.val (.int p1)] [])) _
          refine XS.iloadN X1.here hx rfl (hb hby d_method_5_25) rfl ?_
          show Steps p.tables e below (T1.setTop (mkF m 26 #[.val (.int p1)] [(.int p1)])) _
          refine XS.bipush X1.here hx rfl (hb hby d_method_5_26) ?_
          show Steps p.tables e below (T1.setTop (mkF m 28 #[.val (.int p1)] [(.int (45 : Int32)), (.int p1)])) _
          exact k
        by_cases s28 : p1 = (45 : Int32)
        · refine own_go (B := T1.setTop (mkF m 42 #[.val (.int p1)] [(.int (1 : Int32))])) (fun t k => ?_) ?_
          · show Steps p.tables e below (T1.setTop (mkF m 28 #[.val (.int p1)] [(.int (45 : Int32)), (.int p1)])) _
            refine XS.icmpYes X1.here hx rfl (pc0 := 28) (pc' := 37) rfl (hb hby d_method_5_28) rfl (teq s28).1 (by decide) (by decide) ?_
            show Steps p.tables e below (T1.setTop (mkF m 37 #[.val (.int p1)] [])) _
            refine XS.iconst X1.here hx rfl (hb hby d_method_5_37) ?_
            show Steps p.tables e below (T1.setTop (mkF m 38 #[.val (.int p1)] [(.int (1 : Int32))])) _
            refine XS.goto X1.here hx rfl (pc0 := 38) (pc' := 42) rfl (hb hby d_method_5_38) (by decide) (by decide) ?_
            show Steps p.tables e below (T1.setTop (mkF m 42 #[.val (.int p1)] [(.int (1 : Int32))])) _
            exact k
          obtain ⟨fs, hr, hrun, hended, hW, hsame⟩ := X1.leave (v := some (.int (1 : Int32))) (fun h => by rw [Bd.returns] at h; cases h)
          refine ⟨_, _, retN X1 hx (t := .boolean) Bd.returns (by simp) (hb hby d_method_5_42) hr, hfin _ _ ⟨hrun, hended, _, _, rfl, ?_, ⟨_, rfl⟩, hW, hsame.mono (by decide) (by decide)⟩⟩
          show QLat Z p1 h0 n0 _ T1.heap _
          exact ⟨(1 : Int32), rfl, N, Kq1, (fun _ => rfl), (fun qq_ => absurd (show _ from (Or.inr (Or.inr (Or.inr (Or.inl s28))))) qq_)⟩
        · refine own_go (B := T1.setTop (mkF m 34 #[.val (.int p1)] [(.int (46 : Int32)), (.int p1)])) (fun t k => ?_) ?_
          · show Steps p.tables e below (T1.setTop (mkF m 28 #[.val (.int p1)] [(.int (45 : Int32)), (.int p1)])) _
            refine XS.icmpNo X1.here hx rfl (hb hby d_method_5_28) rfl (feq s28).1 ?_
            show Steps p.tables e below (T1.setTop (mkF m 31 #[.val (.int p1)] [])) _
            refine XS.iloadN X1.here hx rfl (hb hby d_method_5_31) rfl ?_
            show Steps p.tables e below (T1.setTop (mkF m 32 #[.val (.int p1)] [(.int p1)])) _
            refine XS.bipush X1.here hx rfl (hb hby d_method_5_32) ?_
            show Steps p.tables e below (T1.setTop (mkF m 34 #[.val (.int p1)] [(.int (46 : Int32)), (.int p1)])) _
            exact k
          by_cases s34 : p1 = (46 : Int32)
          · refine own_go (B := T1.setTop (mkF m 42 #[.val (.int p1)] [(.int (1 : Int32))])) (fun t k => ?_) ?_
            · show Steps p.tables e below (T1.setTop (mkF m 34 #[.val (.int p1)] [(.int (46 : Int32)), (.int p1)])) _
              refine XS.icmpNo X1.here hx rfl (hb hby d_method_5_34) rfl (teq s34).2 ?_
              show Steps p.tables e below (T1.setTop (mkF m 37 #[.val (.int p1)] [])) _
              refine XS.iconst X1.here hx rfl (hb hby d_method_5_37) ?_
              show Steps p.tables e below (T1.setTop (mkF m 38 #[.val (.int p1)] [(.int (1 : Int32))])) _
              refine XS.goto X1.here hx rfl (pc0 := 38) (pc' := 42) rfl (hb hby d_method_5_38) (by decide) (by decide) ?_
              show Steps p.tables e below (T1.setTop (mkF m 42 #[.val (.int p1)] [(.int (1 : Int32))])) _
              exact k
            obtain ⟨fs, hr, hrun, hended, hW, hsame⟩ := X1.leave (v := some (.int (1 : Int32))) (fun h => by rw [Bd.returns] at h; cases h)
            refine ⟨_, _, retN X1 hx (t := .boolean) Bd.returns (by simp) (hb hby d_method_5_42) hr, hfin _ _ ⟨hrun, hended, _, _, rfl, ?_, ⟨_, rfl⟩, hW, hsame.mono (by decide) (by decide)⟩⟩
            show QLat Z p1 h0 n0 _ T1.heap _
            exact ⟨(1 : Int32), rfl, N, Kq1, (fun _ => rfl), (fun qq_ => absurd (show _ from (Or.inr (Or.inr (Or.inr (Or.inr s34))))) qq_)⟩
          · refine own_go (B := T1.setTop (mkF m 42 #[.val (.int p1)] [(.int (0 : Int32))])) (fun t k => ?_) ?_
            · show Steps p.tables e below (T1.setTop (mkF m 34 #[.val (.int p1)] [(.int (46 : Int32)), (.int p1)])) _
              refine XS.icmpYes X1.here hx rfl (pc0 := 34) (pc' := 41) rfl (hb hby d_method_5_34) rfl (feq s34).2 (by decide) (by decide) ?_
              show Steps p.tables e below (T1.setTop (mkF m 41 #[.val (.int p1)] [])) _
              refine XS.iconst X1.here hx rfl (hb hby d_method_5_41) ?_
              show Steps p.tables e below (T1.setTop (mkF m 42 #[.val (.int p1)] [(.int (0 : Int32))])) _
              exact k
            obtain ⟨fs, hr, hrun, hended, hW, hsame⟩ := X1.leave (v := some (.int (0 : Int32))) (fun h => by rw [Bd.returns] at h; cases h)
            refine ⟨_, _, retN X1 hx (t := .boolean) Bd.returns (by simp) (hb hby d_method_5_42) hr, hfin _ _ ⟨hrun, hended, _, _, rfl, ?_, ⟨_, rfl⟩, hW, hsame.mono (by decide) (by decide)⟩⟩
            show QLat Z p1 h0 n0 _ T1.heap _
            exact ⟨(0 : Int32), rfl, N, Kq1, (fun qq_ => absurd qq_ (fun z0 => z0.elim q (fun z1 => z1.elim (fun z2 => (fun z3 => z3 s10) z2.1) (fun z2 => z2.elim s22 (fun z3 => z3.elim s28 s34))))), (fun _ => rfl)⟩
    · refine own_go (B := T1.setTop (mkF m 16 #[.val (.int p1)] [(.int (57 : Int32)), (.int p1)])) (fun t k => ?_) ?_
      · show Steps p.tables e below (T1.setTop (mkF m 10 #[.val (.int p1)] [(.int (48 : Int32)), (.int p1)])) _
        refine XS.icmpNo X1.here hx rfl (hb hby d_method_5_10) rfl (flt s10).1 ?_
        show Steps p.tables e below (T1.setTop (mkF m 13 #[.val (.int p1)] [])) _
        refine XS.iloadN X1.here hx rfl (hb hby d_method_5_13) rfl ?_
        show Steps p.tables e below (T1.setTop (mkF m 14 #[.val (.int p1)] [(.int p1)])) _
        refine XS.bipush X1.here hx rfl (hb hby d_method_5_14) ?_
        show Steps p.tables e below (T1.setTop (mkF m 16 #[.val (.int p1)] [(.int (57 : Int32)), (.int p1)])) _
        exact k
      by_cases s16 : (57 : Int32) < p1
      · refine own_go (B := T1.setTop (mkF m 22 #[.val (.int p1)] [(.int (43 : Int32)), (.int p1)])) (fun t k => ?_) ?_
        · show Steps p.tables e below (T1.setTop (mkF m 16 #[.val (.int p1)] [(.int (57 : Int32)), (.int p1)])) _
          refine XS.icmpNo X1.here hx rfl (hb hby d_method_5_16) rfl (tlt s16).2.2.2 ?_
          show Steps p.tables e below (T1.setTop (mkF m 19 #[.val (.int p1)] [])) _
          refine XS.iloadN X1.here hx rfl (hb hby d_method_5_19) rfl ?_
          show Steps p.tables e below (T1.setTop (mkF m 20 #[.val (.int p1)] [(.int p1)])) _
          refine XS.bipush X1.here hx rfl (hb hby d_method_5_20) ?_
          show Steps p.tables e below (T1.setTop (mkF m 22 #[.val (.int p1)] [(.int (43 : Int32)), (.int p1)])) _
          exact k
        by_cases s22 : p1 = (43 : Int32)
        · refine own_go (B := T1.setTop (mkF m 42 #[.val (.int p1)] [(.int (1 : Int32))])) (fun t k => ?_) ?_
          · show Steps p.tables e below (T1.setTop (mkF m 22 #[.val (.int p1)] [(.int (43 : Int32)), (.int p1)])) _
            refine XS.icmpYes X1.here hx rfl (pc0 := 22) (pc' := 37) rfl (hb hby d_method_5_22) rfl (teq s22).1 (by decide) (by decide) ?_
            show Steps p.tables e below (T1.setTop (mkF m 37 #[.val (.int p1)] [])) _
            refine XS.iconst X1.here hx rfl (hb hby d_method_5_37) ?_
            show Steps p.tables e below (T1.setTop (mkF m 38 #[.val (.int p1)] [(.int (1 : Int32))])) _
            refine XS.goto X1.here hx rfl (pc0 := 38) (pc' := 42) rfl (hb hby d_method_5_38) (by decide) (by decide) ?_
            show Steps p.tables e below (T1.setTop (mkF m 42 #[.val (.int p1)] [(.int (1 : Int32))])) _
            exact k
          obtain ⟨fs, hr, hrun, hended, hW, hsame⟩ := X1.leave (v := some (.int (1 : Int32))) (fun h => by rw [Bd.returns] at h; cases h)
          refine ⟨_, _, retN X1 hx (t := .boolean) Bd.returns (by simp) (hb hby d_method_5_42) hr, hfin _ _ ⟨hrun, hended, _, _, rfl, ?_, ⟨_, rfl⟩, hW, hsame.mono (by decide) (by decide)⟩⟩
          show QLat Z p1 h0 n0 _ T1.heap _
          exact ⟨(1 : Int32), rfl, N, Kq1, (fun _ => rfl), (fun qq_ => absurd (show _ from (Or.inr (Or.inr (Or.inl s22)))) qq_)⟩
        · refine own_go (B := T1.setTop (mkF m 28 #[.val (.int p1)] [(.int (45 : Int32)), (.int p1)])) (fun t k => ?_) ?_
          · show Steps p.tables e below (T1.setTop (mkF m 22 #[.val (.int p1)] [(.int (43 : Int32)), (.int p1)])) _
            refine XS.icmpNo X1.here hx rfl (hb hby d_method_5_22) rfl (feq s22).1 ?_
            show Steps p.tables e below (T1.setTop (mkF m 25 #[.val (.int p1)] [])) _
            refine XS.iloadN X1.here hx rfl (hb hby d_method_5_25) rfl ?_
            show Steps p.tables e below (T1.setTop (mkF m 26 #[.val (.int p1)] [(.int p1)])) _
            refine XS.bipush X1.here hx rfl (hb hby d_method_5_26) ?_
            show Steps p.tables e below (T1.setTop (mkF m 28 #[.val (.int p1)] [(.int (45 : Int32)), (.int p1)])) _
            exact k
          by_cases s28 : p1 = (45 : Int32)
          · refine own_go (B := T1.setTop (mkF m 42 #[.val (.int p1)] [(.int (1 : Int32))])) (fun t k => ?_) ?_
            · show Steps p.tables e below (T1.setTop (mkF m 28 #[.val (.int p1)] [(.int (45 : Int32)), (.int p1)])) _
              refine XS.icmpYes X1.here hx rfl (pc0 := 28) (pc' := 37) rfl (hb hby d_method_5_28) rfl (teq s28).1 (by decide) (by decide) ?_
              show Steps p.tables e below (T1.setTop (mkF m 37 #[.val (.int p1)] [])) _
              refine XS.iconst X1.here hx rfl (hb hby d_method_5_37) ?_
              show Steps p.tables e below (T1.setTop (mkF m 38 #[.val (.int p1)] [(.int (1 : Int32))])) _
              refine XS.goto X1.here hx rfl (pc0 := 38) (pc' := 42) rfl (hb hby d_method_5_38) (by decide) (by decide) ?_
              show Steps p.tables e below (T1.setTop (mkF m 42 #[.val (.int p1)] [(.int (1 : Int32))])) _
              exact k
            obtain ⟨fs, hr, hrun, hended, hW, hsame⟩ := X1.leave (v := some (.int (1 : Int32))) (fun h => by rw [Bd.returns] at h; cases h)
            refine ⟨_, _, retN X1 hx (t := .boolean) Bd.returns (by simp) (hb hby d_method_5_42) hr, hfin _ _ ⟨hrun, hended, _, _, rfl, ?_, ⟨_, rfl⟩, hW, hsame.mono (by decide) (by decide)⟩⟩
            show QLat Z p1 h0 n0 _ T1.heap _
            exact ⟨(1 : Int32), rfl, N, Kq1, (fun _ => rfl), (fun qq_ => absurd (show _ from (Or.inr (Or.inr (Or.inr (Or.inl s28))))) qq_)⟩
          · refine own_go (B := T1.setTop (mkF m 34 #[.val (.int p1)] [(.int (46 : Int32)), (.int p1)])) (fun t k => ?_) ?_
            · show Steps p.tables e below (T1.setTop (mkF m 28 #[.val (.int p1)] [(.int (45 : Int32)), (.int p1)])) _
              refine XS.icmpNo X1.here hx rfl (hb hby d_method_5_28) rfl (feq s28).1 ?_
              show Steps p.tables e below (T1.setTop (mkF m 31 #[.val (.int p1)] [])) _
              refine XS.iloadN X1.here hx rfl (hb hby d_method_5_31) rfl ?_
              show Steps p.tables e below (T1.setTop (mkF m 32 #[.val (.int p1)] [(.int p1)])) _
              refine XS.bipush X1.here hx rfl (hb hby d_method_5_32) ?_
              show Steps p.tables e below (T1.setTop (mkF m 34 #[.val (.int p1)] [(.int (46 : Int32)), (.int p1)])) _
              exact k
            by_cases s34 : p1 = (46 : Int32)
            · refine own_go (B := T1.setTop (mkF m 42 #[.val (.int p1)] [(.int (1 : Int32))])) (fun t k => ?_) ?_
              · show Steps p.tables e below (T1.setTop (mkF m 34 #[.val (.int p1)] [(.int (46 : Int32)), (.int p1)])) _
                refine XS.icmpNo X1.here hx rfl (hb hby d_method_5_34) rfl (teq s34).2 ?_
                show Steps p.tables e below (T1.setTop (mkF m 37 #[.val (.int p1)] [])) _
                refine XS.iconst X1.here hx rfl (hb hby d_method_5_37) ?_
                show Steps p.tables e below (T1.setTop (mkF m 38 #[.val (.int p1)] [(.int (1 : Int32))])) _
                refine XS.goto X1.here hx rfl (pc0 := 38) (pc' := 42) rfl (hb hby d_method_5_38) (by decide) (by decide) ?_
                show Steps p.tables e below (T1.setTop (mkF m 42 #[.val (.int p1)] [(.int (1 : Int32))])) _
                exact k
              obtain ⟨fs, hr, hrun, hended, hW, hsame⟩ := X1.leave (v := some (.int (1 : Int32))) (fun h => by rw [Bd.returns] at h; cases h)
              refine ⟨_, _, retN X1 hx (t := .boolean) Bd.returns (by simp) (hb hby d_method_5_42) hr, hfin _ _ ⟨hrun, hended, _, _, rfl, ?_, ⟨_, rfl⟩, hW, hsame.mono (by decide) (by decide)⟩⟩
              show QLat Z p1 h0 n0 _ T1.heap _
              exact ⟨(1 : Int32), rfl, N, Kq1, (fun _ => rfl), (fun qq_ => absurd (show _ from (Or.inr (Or.inr (Or.inr (Or.inr s34))))) qq_)⟩
            · refine own_go (B := T1.setTop (mkF m 42 #[.val (.int p1)] [(.int (0 : Int32))])) (fun t k => ?_) ?_
              · show Steps p.tables e below (T1.setTop (mkF m 34 #[.val (.int p1)] [(.int (46 : Int32)), (.int p1)])) _
                refine XS.icmpYes X1.here hx rfl (pc0 := 34) (pc' := 41) rfl (hb hby d_method_5_34) rfl (feq s34).2 (by decide) (by decide) ?_
                show Steps p.tables e below (T1.setTop (mkF m 41 #[.val (.int p1)] [])) _
                refine XS.iconst X1.here hx rfl (hb hby d_method_5_41) ?_
                show Steps p.tables e below (T1.setTop (mkF m 42 #[.val (.int p1)] [(.int (0 : Int32))])) _
                exact k
              obtain ⟨fs, hr, hrun, hended, hW, hsame⟩ := X1.leave (v := some (.int (0 : Int32))) (fun h => by rw [Bd.returns] at h; cases h)
              refine ⟨_, _, retN X1 hx (t := .boolean) Bd.returns (by simp) (hb hby d_method_5_42) hr, hfin _ _ ⟨hrun, hended, _, _, rfl, ?_, ⟨_, rfl⟩, hW, hsame.mono (by decide) (by decide)⟩⟩
              show QLat Z p1 h0 n0 _ T1.heap _
              exact ⟨(0 : Int32), rfl, N, Kq1, (fun qq_ => absurd qq_ (fun z0 => z0.elim q (fun z1 => z1.elim (fun z2 => (fun z3 => z3 s16) z2.2) (fun z2 => z2.elim s22 (fun z3 => z3.elim s28 s34))))), (fun _ => rfl)⟩
      · refine own_go (B := T1.setTop (mkF m 42 #[.val (.int p1)] [(.int (1 : Int32))])) (fun t k => ?_) ?_
        · show Steps p.tables e below (T1.setTop (mkF m 16 #[.val (.int p1)] [(.int (57 : Int32)), (.int p1)])) _
          refine XS.icmpYes X1.here hx rfl (pc0 := 16) (pc' := 37) rfl (hb hby d_method_5_16) rfl (flt s16).2.2.2 (by decide) (by decide) ?_
          show Steps p.tables e below (T1.setTop (mkF m 37 #[.val (.int p1)] [])) _
          refine XS.iconst X1.here hx rfl (hb hby d_method_5_37) ?_
          show Steps p.tables e below (T1.setTop (mkF m 38 #[.val (.int p1)] [(.int (1 : Int32))])) _
          refine XS.goto X1.here hx rfl (pc0 := 38) (pc' := 42) rfl (hb hby d_method_5_38) (by decide) (by decide) ?_
          show Steps p.tables e below (T1.setTop (mkF m 42 #[.val (.int p1)] [(.int (1 : Int32))])) _
          exact k
        obtain ⟨fs, hr, hrun, hended, hW, hsame⟩ := X1.leave (v := some (.int (1 : Int32))) (fun h => by rw [Bd.returns] at h; cases h)
        refine ⟨_, _, retN X1 hx (t := .boolean) Bd.returns (by simp) (hb hby d_method_5_42) hr, hfin _ _ ⟨hrun, hended, _, _, rfl, ?_, ⟨_, rfl⟩, hW, hsame.mono (by decide) (by decide)⟩⟩
        show QLat Z p1 h0 n0 _ T1.heap _
        exact ⟨(1 : Int32), rfl, N, Kq1, (fun _ => rfl), (fun qq_ => absurd (show _ from (Or.inr (Or.inl ⟨s10, s16⟩))) qq_)⟩
def QSc1 (Z : State) (p1 : Int32) (h0 : Heap) (n0 : Nat) (v : Option Value) (h : Heap) (L : List Loc) : Prop := ∃ b : Int32, v = some (.int b) ∧ Fr n0 L ∧ h = h0 ∧ (own_let p1 → b = (1 : Int32)) ∧ (¬ own_let p1 → b = (0 : Int32))
theorem ef_Sc1 (m : MethodId) (p1 : Int32) : entryFrame m #[(.int p1), (.int (1 : Int32))] 2 = mkF m 0 #[.val (.int p1), .val (.int (1 : Int32))] [] := by first | (simp [entryFrame, mkF, argsToLocals, Value.category]; done) | rfl | (rfl)
set_option maxRecDepth 65536 in
set_option maxHeartbeats 40000000 in
theorem rmSc1 (l : Launch) (Z : State) (a0 : Array Value) (hw : ∀ d ∈ tables_1, d.before a0 Z = true) (ws : List Jvm.Cond) (p1 : Int32) (h0 : Heap) (n0 : Nat) (O : Old Z n0 h0)  :
    MetFree l (⟨"org/bindery/Iri", "isSchemeCharacter", "(CZ)Z"⟩ : MethodName) (head1 (Jvm.Cond.code (⟨"org/bindery/Iri", "isSchemeCharacter", "(CZ)Z"⟩ : MethodName) prog_62_method_3_code 2 (some .boolean) :: ws) ({ frames := 0, cells := 0, slots := 0, locals := 0 } : Room)) (fun as_ U => as_ = #[(.int p1), (.int (1 : Int32))] ∧ Z.Warmed39 U.vm ∧ U.heap = h0) (fun _ _ _ _ _ => True) (fun _ U oo_ U' => ∃ vv_ LL_, oo_ = .returned vv_ ∧ QSc1 Z p1 h0 n0 vv_ U'.heap LL_ ∧ FrameEnd U oo_ U' LL_ ({ frames := 0, cells := 0, slots := 0, locals := 0 } : Room).cells ({ frames := 0, cells := 0, slots := 0, locals := 0 } : Room).slots) := by
  refine MetFree.of_bodySF (plainFor_of_name pn_2) hisR ?_
  intro p e s m args below meth c s₁ Bd hml0 hP hK
  obtain ⟨rfl, hZ, hh⟩ := hP
  have hx := Bd.exec
  have hby := Bd.bytes
  have hml : c.maxLocals = 2 := hml0
  have hown : s.vm.findClass "org/bindery/Iri" = some m.cls := findClass_of_methodNamed Bd.named
  have hnm := (name_of_methodNamed Bd.named Bd.method).1
  have X0 : Stand p l e ({ frames := 0, cells := 0, slots := 0, locals := 0 } : Room) s m #[(.int p1), (.int (1 : Int32))] below meth c s₁ [] 0 0 := Stand.of_body Bd
  have e0 : s₁.heap = h0 := by rw [← hh, Bd.state]; rfl
  have N := Fr.nil n0
  have K : Keep h0 h0 [] := Keep.refl h0 _
  refine own_go (B := s₁.setTop (mkF m 0 #[.val (.int p1), .val (.int (1 : Int32))] [])) (fun t k => castTop (ef_Sc1 m p1) k) ?_
  refine own_abs (fun P hfin => ?_)
  refine own_go (B := s₁.setTop (mkF m 3 #[.val (.int p1), .val (.int (1 : Int32))] [(.int (65 : Int32)), (.int p1)])) (fun t k => ?_) ?_
  · show Steps p.tables e below (s₁.setTop (mkF m 0 #[.val (.int p1), .val (.int (1 : Int32))] [])) _
    refine XS.iloadN X0.here hx rfl (hb hby d_prog_62_method_3_0) rfl ?_
    show Steps p.tables e below (s₁.setTop (mkF m 1 #[.val (.int p1), .val (.int (1 : Int32))] [(.int p1)])) _
    refine XS.bipush X0.here hx rfl (hb hby d_prog_62_method_3_1) ?_
    show Steps p.tables e below (s₁.setTop (mkF m 3 #[.val (.int p1), .val (.int (1 : Int32))] [(.int (65 : Int32)), (.int p1)])) _
    exact k
  by_cases s3 : p1 < (65 : Int32)
  · refine own_go (B := s₁.setTop (mkF m 15 #[.val (.int p1), .val (.int (1 : Int32))] [(.int (97 : Int32)), (.int p1)])) (fun t k => ?_) ?_
    · show Steps p.tables e below (s₁.setTop (mkF m 3 #[.val (.int p1), .val (.int (1 : Int32))] [(.int (65 : Int32)), (.int p1)])) _
      refine XS.icmpYes X0.here hx rfl (pc0 := 3) (pc' := 12) rfl (hb hby d_prog_62_method_3_3) rfl (tlt s3).1 (by decide) (by decide) ?_
      show Steps p.tables e below (s₁.setTop (mkF m 12 #[.val (.int p1), .val (.int (1 : Int32))] [])) _
      refine XS.iloadN X0.here hx rfl (hb hby d_prog_62_method_3_12) rfl ?_
      show Steps p.tables e below (s₁.setTop (mkF m 13 #[.val (.int p1), .val (.int (1 : Int32))] [(.int p1)])) _
      refine XS.bipush X0.here hx rfl (hb hby d_prog_62_method_3_13) ?_
      show Steps p.tables e below (s₁.setTop (mkF m 15 #[.val (.int p1), .val (.int (1 : Int32))] [(.int (97 : Int32)), (.int p1)])) _
      exact k
    by_cases s15 : p1 < (97 : Int32)
    · refine own_go (B := s₁.setTop (mkF m 63 #[.val (.int p1), .val (.int (1 : Int32))] [(.int (0 : Int32))])) (fun t k => ?_) ?_
      · show Steps p.tables e below (s₁.setTop (mkF m 15 #[.val (.int p1), .val (.int (1 : Int32))] [(.int (97 : Int32)), (.int p1)])) _
        refine XS.icmpYes X0.here hx rfl (pc0 := 15) (pc' := 24) rfl (hb hby d_prog_62_method_3_15) rfl (tlt s15).1 (by decide) (by decide) ?_
        show Steps p.tables e below (s₁.setTop (mkF m 24 #[.val (.int p1), .val (.int (1 : Int32))] [])) _
        refine XS.iloadN X0.here hx rfl (hb hby d_prog_62_method_3_24) rfl ?_
        show Steps p.tables e below (s₁.setTop (mkF m 25 #[.val (.int p1), .val (.int (1 : Int32))] [(.int (1 : Int32))])) _
        refine XS.ifYes X0.here hx rfl (pc0 := 25) (pc' := 62) rfl (hb hby d_prog_62_method_3_25) rfl ((if0 _ _).trans (feq (by decide)).2) (by decide) (by decide) ?_
        show Steps p.tables e below (s₁.setTop (mkF m 62 #[.val (.int p1), .val (.int (1 : Int32))] [])) _
        refine XS.iconst X0.here hx rfl (hb hby d_prog_62_method_3_62) ?_
        show Steps p.tables e below (s₁.setTop (mkF m 63 #[.val (.int p1), .val (.int (1 : Int32))] [(.int (0 : Int32))])) _
        exact k
      obtain ⟨fs, hr, hrun, hended, hW, hsame⟩ := X0.leave (v := some (.int (0 : Int32))) (fun h => by rw [Bd.returns] at h; cases h)
      refine ⟨_, _, retN X0 hx (t := .boolean) Bd.returns (by simp) (hb hby d_prog_62_method_3_63) hr, hfin _ _ ⟨hrun, hended, _, _, rfl, ?_, ⟨_, rfl⟩, hW, hsame.mono (by decide) (by decide)⟩⟩
      show QSc1 Z p1 h0 n0 _ s₁.heap _
      exact ⟨(0 : Int32), rfl, N, e0, (fun qq_ => absurd qq_ (fun z0 => z0.elim (fun z1 => (fun z2 => z2 s3) z1.1) (fun z1 => (fun z2 => z2 s15) z1.1))), (fun _ => rfl)⟩
    · refine own_go (B := s₁.setTop (mkF m 21 #[.val (.int p1), .val (.int (1 : Int32))] [(.int (122 : Int32)), (.int p1)])) (fun t k => ?_) ?_
      · show Steps p.tables e below (s₁.setTop (mkF m 15 #[.val (.int p1), .val (.int (1 : Int32))] [(.int (97 : Int32)), (.int p1)])) _
        refine XS.icmpNo X0.here hx rfl (hb hby d_prog_62_method_3_15) rfl (flt s15).1 ?_
        show Steps p.tables e below (s₁.setTop (mkF m 18 #[.val (.int p1), .val (.int (1 : Int32))] [])) _
        refine XS.iloadN X0.here hx rfl (hb hby d_prog_62_method_3_18) rfl ?_
        show Steps p.tables e below (s₁.setTop (mkF m 19 #[.val (.int p1), .val (.int (1 : Int32))] [(.int p1)])) _
        refine XS.bipush X0.here hx rfl (hb hby d_prog_62_method_3_19) ?_
        show Steps p.tables e below (s₁.setTop (mkF m 21 #[.val (.int p1), .val (.int (1 : Int32))] [(.int (122 : Int32)), (.int p1)])) _
        exact k
      by_cases s21 : (122 : Int32) < p1
      · refine own_go (B := s₁.setTop (mkF m 63 #[.val (.int p1), .val (.int (1 : Int32))] [(.int (0 : Int32))])) (fun t k => ?_) ?_
        · show Steps p.tables e below (s₁.setTop (mkF m 21 #[.val (.int p1), .val (.int (1 : Int32))] [(.int (122 : Int32)), (.int p1)])) _
          refine XS.icmpNo X0.here hx rfl (hb hby d_prog_62_method_3_21) rfl (tlt s21).2.2.2 ?_
          show Steps p.tables e below (s₁.setTop (mkF m 24 #[.val (.int p1), .val (.int (1 : Int32))] [])) _
          refine XS.iloadN X0.here hx rfl (hb hby d_prog_62_method_3_24) rfl ?_
          show Steps p.tables e below (s₁.setTop (mkF m 25 #[.val (.int p1), .val (.int (1 : Int32))] [(.int (1 : Int32))])) _
          refine XS.ifYes X0.here hx rfl (pc0 := 25) (pc' := 62) rfl (hb hby d_prog_62_method_3_25) rfl ((if0 _ _).trans (feq (by decide)).2) (by decide) (by decide) ?_
          show Steps p.tables e below (s₁.setTop (mkF m 62 #[.val (.int p1), .val (.int (1 : Int32))] [])) _
          refine XS.iconst X0.here hx rfl (hb hby d_prog_62_method_3_62) ?_
          show Steps p.tables e below (s₁.setTop (mkF m 63 #[.val (.int p1), .val (.int (1 : Int32))] [(.int (0 : Int32))])) _
          exact k
        obtain ⟨fs, hr, hrun, hended, hW, hsame⟩ := X0.leave (v := some (.int (0 : Int32))) (fun h => by rw [Bd.returns] at h; cases h)
        refine ⟨_, _, retN X0 hx (t := .boolean) Bd.returns (by simp) (hb hby d_prog_62_method_3_63) hr, hfin _ _ ⟨hrun, hended, _, _, rfl, ?_, ⟨_, rfl⟩, hW, hsame.mono (by decide) (by decide)⟩⟩
        show QSc1 Z p1 h0 n0 _ s₁.heap _
        exact ⟨(0 : Int32), rfl, N, e0, (fun qq_ => absurd qq_ (fun z0 => z0.elim (fun z1 => (fun z2 => z2 s3) z1.1) (fun z1 => (fun z2 => z2 s21) z1.2))), (fun _ => rfl)⟩
      · refine own_go (B := s₁.setTop (mkF m 63 #[.val (.int p1), .val (.int (1 : Int32))] [(.int (1 : Int32))])) (fun t k => ?_) ?_
        · show Steps p.tables e below (s₁.setTop (mkF m 21 #[.val (.int p1), .val (.int (1 : Int32))] [(.int (122 : Int32)), (.int p1)])) _
          refine XS.icmpYes X0.here hx rfl (pc0 := 21) (pc' := 58) rfl (hb hby d_prog_62_method_3_21) rfl (flt s21).2.2.2 (by decide) (by decide) ?_
          show Steps p.tables e below (s₁.setTop (mkF m 58 #[.val (.int p1), .val (.int (1 : Int32))] [])) _
          refine XS.iconst X0.here hx rfl (hb hby d_prog_62_method_3_58) ?_
          show Steps p.tables e below (s₁.setTop (mkF m 59 #[.val (.int p1), .val (.int (1 : Int32))] [(.int (1 : Int32))])) _
          refine XS.goto X0.here hx rfl (pc0 := 59) (pc' := 63) rfl (hb hby d_prog_62_method_3_59) (by decide) (by decide) ?_
          show Steps p.tables e below (s₁.setTop (mkF m 63 #[.val (.int p1), .val (.int (1 : Int32))] [(.int (1 : Int32))])) _
          exact k
        obtain ⟨fs, hr, hrun, hended, hW, hsame⟩ := X0.leave (v := some (.int (1 : Int32))) (fun h => by rw [Bd.returns] at h; cases h)
        refine ⟨_, _, retN X0 hx (t := .boolean) Bd.returns (by simp) (hb hby d_prog_62_method_3_63) hr, hfin _ _ ⟨hrun, hended, _, _, rfl, ?_, ⟨_, rfl⟩, hW, hsame.mono (by decide) (by decide)⟩⟩
        show QSc1 Z p1 h0 n0 _ s₁.heap _
        exact ⟨(1 : Int32), rfl, N, e0, (fun _ => rfl), (fun qq_ => absurd (show _ from (Or.inr ⟨s15, s21⟩)) qq_)⟩
  · refine own_go (B := s₁.setTop (mkF m 9 #[.val (.int p1), .val (.int (1 : Int32))] [(.int (90 : Int32)), (.int p1)])) (fun t k => ?_) ?_
    · show Steps p.tables e below (s₁.setTop (mkF m 3 #[.val (.int p1), .val (.int (1 : Int32))] [(.int (65 : Int32)), (.int p1)])) _
      refine XS.icmpNo X0.here hx rfl (hb hby d_prog_62_method_3_3) rfl (flt s3).1 ?_
      show Steps p.tables e below (s₁.setTop (mkF m 6 #[.val (.int p1), .val (.int (1 : Int32))] [])) _
      refine XS.iloadN X0.here hx rfl (hb hby d_prog_62_method_3_6) rfl ?_
      show Steps p.tables e below (s₁.setTop (mkF m 7 #[.val (.int p1), .val (.int (1 : Int32))] [(.int p1)])) _
      refine XS.bipush X0.here hx rfl (hb hby d_prog_62_method_3_7) ?_
      show Steps p.tables e below (s₁.setTop (mkF m 9 #[.val (.int p1), .val (.int (1 : Int32))] [(.int (90 : Int32)), (.int p1)])) _
      exact k
    by_cases s9 : (90 : Int32) < p1
    · refine own_go (B := s₁.setTop (mkF m 15 #[.val (.int p1), .val (.int (1 : Int32))] [(.int (97 : Int32)), (.int p1)])) (fun t k => ?_) ?_
      · show Steps p.tables e below (s₁.setTop (mkF m 9 #[.val (.int p1), .val (.int (1 : Int32))] [(.int (90 : Int32)), (.int p1)])) _
        refine XS.icmpNo X0.here hx rfl (hb hby d_prog_62_method_3_9) rfl (tlt s9).2.2.2 ?_
        show Steps p.tables e below (s₁.setTop (mkF m 12 #[.val (.int p1), .val (.int (1 : Int32))] [])) _
        refine XS.iloadN X0.here hx rfl (hb hby d_prog_62_method_3_12) rfl ?_
        show Steps p.tables e below (s₁.setTop (mkF m 13 #[.val (.int p1), .val (.int (1 : Int32))] [(.int p1)])) _
        refine XS.bipush X0.here hx rfl (hb hby d_prog_62_method_3_13) ?_
        show Steps p.tables e below (s₁.setTop (mkF m 15 #[.val (.int p1), .val (.int (1 : Int32))] [(.int (97 : Int32)), (.int p1)])) _
        exact k
      by_cases s15 : p1 < (97 : Int32)
      · refine own_go (B := s₁.setTop (mkF m 63 #[.val (.int p1), .val (.int (1 : Int32))] [(.int (0 : Int32))])) (fun t k => ?_) ?_
        · show Steps p.tables e below (s₁.setTop (mkF m 15 #[.val (.int p1), .val (.int (1 : Int32))] [(.int (97 : Int32)), (.int p1)])) _
          refine XS.icmpYes X0.here hx rfl (pc0 := 15) (pc' := 24) rfl (hb hby d_prog_62_method_3_15) rfl (tlt s15).1 (by decide) (by decide) ?_
          show Steps p.tables e below (s₁.setTop (mkF m 24 #[.val (.int p1), .val (.int (1 : Int32))] [])) _
          refine XS.iloadN X0.here hx rfl (hb hby d_prog_62_method_3_24) rfl ?_
          show Steps p.tables e below (s₁.setTop (mkF m 25 #[.val (.int p1), .val (.int (1 : Int32))] [(.int (1 : Int32))])) _
          refine XS.ifYes X0.here hx rfl (pc0 := 25) (pc' := 62) rfl (hb hby d_prog_62_method_3_25) rfl ((if0 _ _).trans (feq (by decide)).2) (by decide) (by decide) ?_
          show Steps p.tables e below (s₁.setTop (mkF m 62 #[.val (.int p1), .val (.int (1 : Int32))] [])) _
          refine XS.iconst X0.here hx rfl (hb hby d_prog_62_method_3_62) ?_
          show Steps p.tables e below (s₁.setTop (mkF m 63 #[.val (.int p1), .val (.int (1 : Int32))] [(.int (0 : Int32))])) _
          exact k
        obtain ⟨fs, hr, hrun, hended, hW, hsame⟩ := X0.leave (v := some (.int (0 : Int32))) (fun h => by rw [Bd.returns] at h; cases h)
        refine ⟨_, _, retN X0 hx (t := .boolean) Bd.returns (by simp) (hb hby d_prog_62_method_3_63) hr, hfin _ _ ⟨hrun, hended, _, _, rfl, ?_, ⟨_, rfl⟩, hW, hsame.mono (by decide) (by decide)⟩⟩
        show QSc1 Z p1 h0 n0 _ s₁.heap _
        exact ⟨(0 : Int32), rfl, N, e0, (fun qq_ => absurd qq_ (fun z0 => z0.elim (fun z1 => (fun z2 => z2 s9) z1.2) (fun z1 => (fun z2 => z2 s15) z1.1))), (fun _ => rfl)⟩
      · refine own_go (B := s₁.setTop (mkF m 21 #[.val (.int p1), .val (.int (1 : Int32))] [(.int (122 : Int32)), (.int p1)])) (fun t k => ?_) ?_
        · show Steps p.tables e below (s₁.setTop (mkF m 15 #[.val (.int p1), .val (.int (1 : Int32))] [(.int (97 : Int32)), (.int p1)])) _
          refine XS.icmpNo X0.here hx rfl (hb hby d_prog_62_method_3_15) rfl (flt s15).1 ?_
          show Steps p.tables e below (s₁.setTop (mkF m 18 #[.val (.int p1), .val (.int (1 : Int32))] [])) _
          refine XS.iloadN X0.here hx rfl (hb hby d_prog_62_method_3_18) rfl ?_
          show Steps p.tables e below (s₁.setTop (mkF m 19 #[.val (.int p1), .val (.int (1 : Int32))] [(.int p1)])) _
          refine XS.bipush X0.here hx rfl (hb hby d_prog_62_method_3_19) ?_
          show Steps p.tables e below (s₁.setTop (mkF m 21 #[.val (.int p1), .val (.int (1 : Int32))] [(.int (122 : Int32)), (.int p1)])) _
          exact k
        by_cases s21 : (122 : Int32) < p1
        · refine own_go (B := s₁.setTop (mkF m 63 #[.val (.int p1), .val (.int (1 : Int32))] [(.int (0 : Int32))])) (fun t k => ?_) ?_
          · show Steps p.tables e below (s₁.setTop (mkF m 21 #[.val (.int p1), .val (.int (1 : Int32))] [(.int (122 : Int32)), (.int p1)])) _
            refine XS.icmpNo X0.here hx rfl (hb hby d_prog_62_method_3_21) rfl (tlt s21).2.2.2 ?_
            show Steps p.tables e below (s₁.setTop (mkF m 24 #[.val (.int p1), .val (.int (1 : Int32))] [])) _
            refine XS.iloadN X0.here hx rfl (hb hby d_prog_62_method_3_24) rfl ?_
            show Steps p.tables e below (s₁.setTop (mkF m 25 #[.val (.int p1), .val (.int (1 : Int32))] [(.int (1 : Int32))])) _
            refine XS.ifYes X0.here hx rfl (pc0 := 25) (pc' := 62) rfl (hb hby d_prog_62_method_3_25) rfl ((if0 _ _).trans (feq (by decide)).2) (by decide) (by decide) ?_
            show Steps p.tables e below (s₁.setTop (mkF m 62 #[.val (.int p1), .val (.int (1 : Int32))] [])) _
            refine XS.iconst X0.here hx rfl (hb hby d_prog_62_method_3_62) ?_
            show Steps p.tables e below (s₁.setTop (mkF m 63 #[.val (.int p1), .val (.int (1 : Int32))] [(.int (0 : Int32))])) _
            exact k
          obtain ⟨fs, hr, hrun, hended, hW, hsame⟩ := X0.leave (v := some (.int (0 : Int32))) (fun h => by rw [Bd.returns] at h; cases h)
          refine ⟨_, _, retN X0 hx (t := .boolean) Bd.returns (by simp) (hb hby d_prog_62_method_3_63) hr, hfin _ _ ⟨hrun, hended, _, _, rfl, ?_, ⟨_, rfl⟩, hW, hsame.mono (by decide) (by decide)⟩⟩
          show QSc1 Z p1 h0 n0 _ s₁.heap _
          exact ⟨(0 : Int32), rfl, N, e0, (fun qq_ => absurd qq_ (fun z0 => z0.elim (fun z1 => (fun z2 => z2 s9) z1.2) (fun z1 => (fun z2 => z2 s21) z1.2))), (fun _ => rfl)⟩
        · refine own_go (B := s₁.setTop (mkF m 63 #[.val (.int p1), .val (.int (1 : Int32))] [(.int (1 : Int32))])) (fun t k => ?_) ?_
          · show Steps p.tables e below (s₁.setTop (mkF m 21 #[.val (.int p1), .val (.int (1 : Int32))] [(.int (122 : Int32)), (.int p1)])) _
            refine XS.icmpYes X0.here hx rfl (pc0 := 21) (pc' := 58) rfl (hb hby d_prog_62_method_3_21) rfl (flt s21).2.2.2 (by decide) (by decide) ?_
            show Steps p.tables e below (s₁.setTop (mkF m 58 #[.val (.int p1), .val (.int (1 : Int32))] [])) _
            refine XS.iconst X0.here hx rfl (hb hby d_prog_62_method_3_58) ?_
            show Steps p.tables e below (s₁.setTop (mkF m 59 #[.val (.int p1), .val (.int (1 : Int32))] [(.int (1 : Int32))])) _
            refine XS.goto X0.here hx rfl (pc0 := 59) (pc' := 63) rfl (hb hby d_prog_62_method_3_59) (by decide) (by decide) ?_
            show Steps p.tables e below (s₁.setTop (mkF m 63 #[.val (.int p1), .val (.int (1 : Int32))] [(.int (1 : Int32))])) _
            exact k
          obtain ⟨fs, hr, hrun, hended, hW, hsame⟩ := X0.leave (v := some (.int (1 : Int32))) (fun h => by rw [Bd.returns] at h; cases h)
          refine ⟨_, _, retN X0 hx (t := .boolean) Bd.returns (by simp) (hb hby d_prog_62_method_3_63) hr, hfin _ _ ⟨hrun, hended, _, _, rfl, ?_, ⟨_, rfl⟩, hW, hsame.mono (by decide) (by decide)⟩⟩
          show QSc1 Z p1 h0 n0 _ s₁.heap _
          exact ⟨(1 : Int32), rfl, N, e0, (fun _ => rfl), (fun qq_ => absurd (show _ from (Or.inr ⟨s15, s21⟩)) qq_)⟩
    · refine own_go (B := s₁.setTop (mkF m 63 #[.val (.int p1), .val (.int (1 : Int32))] [(.int (1 : Int32))])) (fun t k => ?_) ?_
      · show Steps p.tables e below (s₁.setTop (mkF m 9 #[.val (.int p1), .val (.int (1 : Int32))] [(.int (90 : Int32)), (.int p1)])) _
        refine XS.icmpYes X0.here hx rfl (pc0 := 9) (pc' := 58) rfl (hb hby d_prog_62_method_3_9) rfl (flt s9).2.2.2 (by decide) (by decide) ?_
        show Steps p.tables e below (s₁.setTop (mkF m 58 #[.val (.int p1), .val (.int (1 : Int32))] [])) _
        refine XS.iconst X0.here hx rfl (hb hby d_prog_62_method_3_58) ?_
        show Steps p.tables e below (s₁.setTop (mkF m 59 #[.val (.int p1), .val (.int (1 : Int32))] [(.int (1 : Int32))])) _
        refine XS.goto X0.here hx rfl (pc0 := 59) (pc' := 63) rfl (hb hby d_prog_62_method_3_59) (by decide) (by decide) ?_
        show Steps p.tables e below (s₁.setTop (mkF m 63 #[.val (.int p1), .val (.int (1 : Int32))] [(.int (1 : Int32))])) _
        exact k
      obtain ⟨fs, hr, hrun, hended, hW, hsame⟩ := X0.leave (v := some (.int (1 : Int32))) (fun h => by rw [Bd.returns] at h; cases h)
      refine ⟨_, _, retN X0 hx (t := .boolean) Bd.returns (by simp) (hb hby d_prog_62_method_3_63) hr, hfin _ _ ⟨hrun, hended, _, _, rfl, ?_, ⟨_, rfl⟩, hW, hsame.mono (by decide) (by decide)⟩⟩
      show QSc1 Z p1 h0 n0 _ s₁.heap _
      exact ⟨(1 : Int32), rfl, N, e0, (fun _ => rfl), (fun qq_ => absurd (show _ from (Or.inl ⟨s3, s9⟩)) qq_)⟩
def QSc0 (Z : State) (p1 : Int32) (h0 : Heap) (n0 : Nat) (v : Option Value) (h : Heap) (L : List Loc) : Prop := ∃ b : Int32, v = some (.int b) ∧ Fr n0 L ∧ h = h0 ∧ (own_lat p1 → b = (1 : Int32)) ∧ (¬ own_lat p1 → b = (0 : Int32))
theorem ef_Sc0 (m : MethodId) (p1 : Int32) : entryFrame m #[(.int p1), (.int (0 : Int32))] 2 = mkF m 0 #[.val (.int p1), .val (.int (0 : Int32))] [] := by first | (simp [entryFrame, mkF, argsToLocals, Value.category]; done) | rfl | (rfl)
set_option maxRecDepth 65536 in
set_option maxHeartbeats 40000000 in
theorem rmSc0 (l : Launch) (Z : State) (a0 : Array Value) (hw : ∀ d ∈ tables_1, d.before a0 Z = true) (ws : List Jvm.Cond) (p1 : Int32) (h0 : Heap) (n0 : Nat) (O : Old Z n0 h0)  :
    MetFree l (⟨"org/bindery/Iri", "isSchemeCharacter", "(CZ)Z"⟩ : MethodName) (head1 (Jvm.Cond.code (⟨"org/bindery/Iri", "isSchemeCharacter", "(CZ)Z"⟩ : MethodName) prog_62_method_3_code 2 (some .boolean) :: ws) ({ frames := 0, cells := 0, slots := 0, locals := 0 } : Room)) (fun as_ U => as_ = #[(.int p1), (.int (0 : Int32))] ∧ Z.Warmed39 U.vm ∧ U.heap = h0) (fun _ _ _ _ _ => True) (fun _ U oo_ U' => ∃ vv_ LL_, oo_ = .returned vv_ ∧ QSc0 Z p1 h0 n0 vv_ U'.heap LL_ ∧ FrameEnd U oo_ U' LL_ ({ frames := 0, cells := 0, slots := 0, locals := 0 } : Room).cells ({ frames := 0, cells := 0, slots := 0, locals := 0 } : Room).slots) := by
  refine MetFree.of_bodySF (plainFor_of_name pn_2) hisR ?_
  intro p e s m args below meth c s₁ Bd hml0 hP hK
  obtain ⟨rfl, hZ, hh⟩ := hP
  have hx := Bd.exec
  have hby := Bd.bytes
  have hml : c.maxLocals = 2 := hml0
  have hown : s.vm.findClass "org/bindery/Iri" = some m.cls := findClass_of_methodNamed Bd.named
  have hnm := (name_of_methodNamed Bd.named Bd.method).1
  have X0 : Stand p l e ({ frames := 0, cells := 0, slots := 0, locals := 0 } : Room) s m #[(.int p1), (.int (0 : Int32))] below meth c s₁ [] 0 0 := Stand.of_body Bd
  have e0 : s₁.heap = h0 := by rw [← hh, Bd.state]; rfl
  have N := Fr.nil n0
  have K : Keep h0 h0 [] := Keep.refl h0 _
  refine own_go (B := s₁.setTop (mkF m 0 #[.val (.int p1), .val (.int (0 : Int32))] [])) (fun t k => castTop (ef_Sc0 m p1) k) ?_
  refine own_abs (fun P hfin => ?_)
  refine own_go (B := s₁.setTop (mkF m 3 #[.val (.int p1), .val (.int (0 : Int32))] [(.int (65 : Int32)), (.int p1)])) (fun t k => ?_) ?_
  · show Steps p.tables e below (s₁.setTop (mkF m 0 #[.val (.int p1), .val (.int (0 : Int32))] [])) _
    refine XS.iloadN X0.here hx rfl (hb hby d_prog_62_method_3_0) rfl ?_
    show Steps p.tables e below (s₁.setTop (mkF m 1 #[.val (.int p1), .val (.int (0 : Int32))] [(.int p1)])) _
    refine XS.bipush X0.here hx rfl (hb hby d_prog_62_method_3_1) ?_
    show Steps p.tables e below (s₁.setTop (mkF m 3 #[.val (.int p1), .val (.int (0 : Int32))] [(.int (65 : Int32)), (.int p1)])) _
    exact k
  by_cases s3 : p1 < (65 : Int32)
  · refine own_go (B := s₁.setTop (mkF m 15 #[.val (.int p1), .val (.int (0 : Int32))] [(.int (97 : Int32)), (.int p1)])) (fun t k => ?_) ?_
    · show Steps p.tables e below (s₁.setTop (mkF m 3 #[.val (.int p1), .val (.int (0 : Int32))] [(.int (65 : Int32)), (.int p1)])) _
      refine XS.icmpYes X0.here hx rfl (pc0 := 3) (pc' := 12) rfl (hb hby d_prog_62_method_3_3) rfl (tlt s3).1 (by decide) (by decide) ?_
      show Steps p.tables e below (s₁.setTop (mkF m 12 #[.val (.int p1), .val (.int (0 : Int32))] [])) _
      refine XS.iloadN X0.here hx rfl (hb hby d_prog_62_method_3_12) rfl ?_
      show Steps p.tables e below (s₁.setTop (mkF m 13 #[.val (.int p1), .val (.int (0 : Int32))] [(.int p1)])) _
      refine XS.bipush X0.here hx rfl (hb hby d_prog_62_method_3_13) ?_
      show Steps p.tables e below (s₁.setTop (mkF m 15 #[.val (.int p1), .val (.int (0 : Int32))] [(.int (97 : Int32)), (.int p1)])) _
      exact k
    by_cases s15 : p1 < (97 : Int32)
    · refine own_go (B := s₁.setTop (mkF m 31 #[.val (.int p1), .val (.int (0 : Int32))] [(.int (48 : Int32)), (.int p1)])) (fun t k => ?_) ?_
      · show Steps p.tables e below (s₁.setTop (mkF m 15 #[.val (.int p1), .val (.int (0 : Int32))] [(.int (97 : Int32)), (.int p1)])) _
        refine XS.icmpYes X0.here hx rfl (pc0 := 15) (pc' := 24) rfl (hb hby d_prog_62_method_3_15) rfl (tlt s15).1 (by decide) (by decide) ?_
        show Steps p.tables e below (s₁.setTop (mkF m 24 #[.val (.int p1), .val (.int (0 : Int32))] [])) _
        refine XS.iloadN X0.here hx rfl (hb hby d_prog_62_method_3_24) rfl ?_
        show Steps p.tables e below (s₁.setTop (mkF m 25 #[.val (.int p1), .val (.int (0 : Int32))] [(.int (0 : Int32))])) _
        refine XS.ifNo X0.here hx rfl (hb hby d_prog_62_method_3_25) rfl ((if0 _ _).trans (teq (by decide)).2) ?_
        show Steps p.tables e below (s₁.setTop (mkF m 28 #[.val (.int p1), .val (.int (0 : Int32))] [])) _
        refine XS.iloadN X0.here hx rfl (hb hby d_prog_62_method_3_28) rfl ?_
        show Steps p.tables e below (s₁.setTop (mkF m 29 #[.val (.int p1), .val (.int (0 : Int32))] [(.int p1)])) _
        refine XS.bipush X0.here hx rfl (hb hby d_prog_62_method_3_29) ?_
        show Steps p.tables e below (s₁.setTop (mkF m 31 #[.val (.int p1), .val (.int (0 : Int32))] [(.int (48 : Int32)), (.int p1)])) _
        exact k
      by_cases s31 : p1 < (48 : Int32)
      · refine own_go (B := s₁.setTop (mkF m 43 #[.val (.int p1), .val (.int (0 : Int32))] [(.int (43 : Int32)), (.int p1)])) (fun t k => ?_) ?_
        · show Steps p.tables e below (s₁.setTop (mkF m 31 #[.val (.int p1), .val (.int (0 : Int32))] [(.int (48 : Int32)), (.int p1)])) _
          refine XS.icmpYes X0.here hx rfl (pc0 := 31) (pc' := 40) rfl (hb hby d_prog_62_method_3_31) rfl (tlt s31).1 (by decide) (by decide) ?_
          show Steps p.tables e below (s₁.setTop (mkF m 40 #[.val (.int p1), .val (.int (0 : Int32))] [])) _
          refine XS.iloadN X0.here hx rfl (hb hby d_prog_62_method_3_40) rfl ?_
          show Steps p.tables e below (s₁.setTop (mkF m 41 #[.val (.int p1), .val (.int (0 : Int32))] [(.int p1)])) _
          refine XS.bipush X0.here hx rfl (hb hby d_prog_62_method_3_41) ?_
          show Steps p.tables e below (s₁.setTop (mkF m 43 #[.val (.int p1), .val (.int (0 : Int32))] [(.int (43 : Int32)), (.int p1)])) _
          exact k
        by_cases s43 : p1 = (43 : Int32)
        · refine own_go (B := s₁.setTop (mkF m 63 #[.val (.int p1), .val (.int (0 : Int32))] [(.int (1 : Int32))])) (fun t k => ?_) ?_
          · show Steps p.tables e below (s₁.setTop (mkF m 43 #[.val (.int p1), .val (.int (0 : Int32))] [(.int (43 : Int32)), (.int p1)])) _
            refine XS.icmpYes X0.here hx rfl (pc0 := 43) (pc' := 58) rfl (hb hby d_prog_62_method_3_43) rfl (teq s43).1 (by decide) (by decide) ?_
            show Steps p.tables e below (s₁.setTop (mkF m 58 #[.val (.int p1), .val (.int (0 : Int32))] [])) _
            refine XS.iconst X0.here hx rfl (hb hby d_prog_62_method_3_58) ?_
            show Steps p.tables e below (s₁.setTop (mkF m 59 #[.val (.int p1), .val (.int (0 : Int32))] [(.int (1 : Int32))])) _
            refine XS.goto X0.here hx rfl (pc0 := 59) (pc' := 63) rfl (hb hby d_prog_62_method_3_59) (by decide) (by decide) ?_
            show Steps p.tables e below (s₁.setTop (mkF m 63 #[.val (.int p1), .val (.int (0 : Int32))] [(.int (1 : Int32))])) _
            exact k
          obtain ⟨fs, hr, hrun, hended, hW, hsame⟩ := X0.leave (v := some (.int (1 : Int32))) (fun h => by rw [Bd.returns] at h; cases h)
          refine ⟨_, _, retN X0 hx (t := .boolean) Bd.returns (by simp) (hb hby d_prog_62_method_3_63) hr, hfin _ _ ⟨hrun, hended, _, _, rfl, ?_, ⟨_, rfl⟩, hW, hsame.mono (by decide) (by decide)⟩⟩
          show QSc0 Z p1 h0 n0 _ s₁.heap _
          exact ⟨(1 : Int32), rfl, N, e0, (fun _ => rfl), (fun qq_ => absurd (show _ from (Or.inr (Or.inr (Or.inl s43)))) qq_)⟩
        · refine own_go (B := s₁.setTop (mkF m 49 #[.val (.int p1), .val (.int (0 : Int32))] [(.int (45 : Int32)), (.int p1)])) (fun t k => ?_) ?_
          · show Steps p.tables e below (s₁.setTop (mkF m 43 #[.val (.int p1), .val (.int (0 : Int32))] [(.int (43 : Int32)), (.int p1)])) _
            refine XS.icmpNo X0.here hx rfl (hb hby d_prog_62_method_3_43) rfl (feq s43).1 ?_
            show Steps p.tables e below (s₁.setTop (mkF m 46 #[.val (.int p1), .val (.int (0 : Int32))] [])) _
            refine XS.iloadN X0.here hx rfl (hb hby d_prog_62_method_3_46) rfl ?_
            show Steps p.tables e below (s₁.setTop (mkF m 47 #[.val (.int p1), .val (.int (0 : Int32))] [(.int p1)])) _
            refine XS.bipush X0.here hx rfl (hb hby d_prog_62_method_3_47) ?_
            show Steps p.tables e below (s₁.setTop (mkF m 49 #[.val (.int p1), .val (.int (0 : Int32))] [(.int (45 : Int32)), (.int p1)])) _
            exact k
          by_cases s49 : p1 = (45 : Int32)
          · refine own_go (B := s₁.setTop (mkF m 63 #[.val (.int p1), .val (.int (0 : Int32))] [(.int (1 : Int32))])) (fun t k => ?_) ?_
            · show Steps p.tables e below (s₁.setTop (mkF m 49 #[.val (.int p1), .val (.int (0 : Int32))] [(.int (45 : Int32)), (.int p1)])) _
              refine XS.icmpYes X0.here hx rfl (pc0 := 49) (pc' := 58) rfl (hb hby d_prog_62_method_3_49) rfl (teq s49).1 (by decide) (by decide) ?_
              show Steps p.tables e below (s₁.setTop (mkF m 58 #[.val (.int p1), .val (.int (0 : Int32))] [])) _
              refine XS.iconst X0.here hx rfl (hb hby d_prog_62_method_3_58) ?_
              show Steps p.tables e below (s₁.setTop (mkF m 59 #[.val (.int p1), .val (.int (0 : Int32))] [(.int (1 : Int32))])) _
              refine XS.goto X0.here hx rfl (pc0 := 59) (pc' := 63) rfl (hb hby d_prog_62_method_3_59) (by decide) (by decide) ?_
              show Steps p.tables e below (s₁.setTop (mkF m 63 #[.val (.int p1), .val (.int (0 : Int32))] [(.int (1 : Int32))])) _
              exact k
            obtain ⟨fs, hr, hrun, hended, hW, hsame⟩ := X0.leave (v := some (.int (1 : Int32))) (fun h => by rw [Bd.returns] at h; cases h)
            refine ⟨_, _, retN X0 hx (t := .boolean) Bd.returns (by simp) (hb hby d_prog_62_method_3_63) hr, hfin _ _ ⟨hrun, hended, _, _, rfl, ?_, ⟨_, rfl⟩, hW, hsame.mono (by decide) (by decide)⟩⟩
            show QSc0 Z p1 h0 n0 _ s₁.heap _
            exact ⟨(1 : Int32), rfl, N, e0, (fun _ => rfl), (fun qq_ => absurd (show _ from (Or.inr (Or.inr (Or.inr (Or.inl s49))))) qq_)⟩
          · refine own_go (B := s₁.setTop (mkF m 55 #[.val (.int p1), .val (.int (0 : Int32))] [(.int (46 : Int32)), (.int p1)])) (fun t k => ?_) ?_
            · show Steps p.tables e below (s₁.setTop (mkF m 49 #[.val (.int p1), .val (.int (0 : Int32))] [(.int (45 : Int32)), (.int p1)])) _
              refine XS.icmpNo X0.here hx rfl (hb hby d_prog_62_method_3_49) rfl (feq s49).1 ?_
              show Steps p.tables e below (s₁.setTop (mkF m 52 #[.val (.int p1), .val (.int (0 : Int32))] [])) _
              refine XS.iloadN X0.here hx rfl (hb hby d_prog_62_method_3_52) rfl ?_
              show Steps p.tables e below (s₁.setTop (mkF m 53 #[.val (.int p1), .val (.int (0 : Int32))] [(.int p1)])) _
              refine XS.bipush X0.here hx rfl (hb hby d_prog_62_method_3_53) ?_
              show Steps p.tables e below (s₁.setTop (mkF m 55 #[.val (.int p1), .val (.int (0 : Int32))] [(.int (46 : Int32)), (.int p1)])) _
              exact k
            by_cases s55 : p1 = (46 : Int32)
            · refine own_go (B := s₁.setTop (mkF m 63 #[.val (.int p1), .val (.int (0 : Int32))] [(.int (1 : Int32))])) (fun t k => ?_) ?_
              · show Steps p.tables e below (s₁.setTop (mkF m 55 #[.val (.int p1), .val (.int (0 : Int32))] [(.int (46 : Int32)), (.int p1)])) _
                refine XS.icmpNo X0.here hx rfl (hb hby d_prog_62_method_3_55) rfl (teq s55).2 ?_
                show Steps p.tables e below (s₁.setTop (mkF m 58 #[.val (.int p1), .val (.int (0 : Int32))] [])) _
                refine XS.iconst X0.here hx rfl (hb hby d_prog_62_method_3_58) ?_
                show Steps p.tables e below (s₁.setTop (mkF m 59 #[.val (.int p1), .val (.int (0 : Int32))] [(.int (1 : Int32))])) _
                refine XS.goto X0.here hx rfl (pc0 := 59) (pc' := 63) rfl (hb hby d_prog_62_method_3_59) (by decide) (by decide) ?_
                show Steps p.tables e below (s₁.setTop (mkF m 63 #[.val (.int p1), .val (.int (0 : Int32))] [(.int (1 : Int32))])) _
                exact k
              obtain ⟨fs, hr, hrun, hended, hW, hsame⟩ := X0.leave (v := some (.int (1 : Int32))) (fun h => by rw [Bd.returns] at h; cases h)
              refine ⟨_, _, retN X0 hx (t := .boolean) Bd.returns (by simp) (hb hby d_prog_62_method_3_63) hr, hfin _ _ ⟨hrun, hended, _, _, rfl, ?_, ⟨_, rfl⟩, hW, hsame.mono (by decide) (by decide)⟩⟩
              show QSc0 Z p1 h0 n0 _ s₁.heap _
              exact ⟨(1 : Int32), rfl, N, e0, (fun _ => rfl), (fun qq_ => absurd (show _ from (Or.inr (Or.inr (Or.inr (Or.inr s55))))) qq_)⟩
            · refine own_go (B := s₁.setTop (mkF m 63 #[.val (.int p1), .val (.int (0 : Int32))] [(.int (0 : Int32))])) (fun t k => ?_) ?_
              · show Steps p.tables e below (s₁.setTop (mkF m 55 #[.val (.int p1), .val (.int (0 : Int32))] [(.int (46 : Int32)), (.int p1)])) _
                refine XS.icmpYes X0.here hx rfl (pc0 := 55) (pc' := 62) rfl (hb hby d_prog_62_method_3_55) rfl (feq s55).2 (by decide) (by decide) ?_
                show Steps p.tables e below (s₁.setTop (mkF m 62 #[.val (.int p1), .val (.int (0 : Int32))] [])) _
                refine XS.iconst X0.here hx rfl (hb hby d_prog_62_method_3_62) ?_
                show Steps p.tables e below (s₁.setTop (mkF m 63 #[.val (.int p1), .val (.int (0 : Int32))] [(.int (0 : Int32))])) _
                exact k
              obtain ⟨fs, hr, hrun, hended, hW, hsame⟩ := X0.leave (v := some (.int (0 : Int32))) (fun h => by rw [Bd.returns] at h; cases h)
              refine ⟨_, _, retN X0 hx (t := .boolean) Bd.returns (by simp) (hb hby d_prog_62_method_3_63) hr, hfin _ _ ⟨hrun, hended, _, _, rfl, ?_, ⟨_, rfl⟩, hW, hsame.mono (by decide) (by decide)⟩⟩
              show QSc0 Z p1 h0 n0 _ s₁.heap _
              exact ⟨(0 : Int32), rfl, N, e0, (fun qq_ => absurd qq_ (fun z0 => z0.elim (fun z1 => z1.elim (fun z2 => (fun z3 => z3 s3) z2.1) (fun z2 => (fun z3 => z3 s15) z2.1)) (fun z1 => z1.elim (fun z2 => (fun z3 => z3 s31) z2.1) (fun z2 => z2.elim s43 (fun z3 => z3.elim s49 s55))))), (fun _ => rfl)⟩
      · refine own_go (B := s₁.setTop (mkF m 37 #[.val (.int p1), .val (.int (0 : Int32))] [(.int (57 : Int32)), (.int p1)])) (fun t k => ?_) ?_
        · show Steps p.tables e below (s₁.setTop (mkF m 31 #[.val (.int p1), .val (.int (0 : Int32))] [(.int (48 : Int32)), (.int p1)])) _
          refine XS.icmpNo X0.here hx rfl (hb hby d_prog_62_method_3_31) rfl (flt s31).1 ?_
          show Steps p.tables e below (s₁.setTop (mkF m 34 #[.val (.int p1), .val (.int (0 : Int32))] [])) _
          refine XS.iloadN X0.here hx rfl (hb hby d_prog_62_method_3_34) rfl ?_
          show Steps p.tables e below (s₁.setTop (mkF m 35 #[.val (.int p1), .val (.int (0 : Int32))] [(.int p1)])) _
          refine XS.bipush X0.here hx rfl (hb hby d_prog_62_method_3_35) ?_
          show Steps p.tables e below (s₁.setTop (mkF m 37 #[.val (.int p1), .val (.int (0 : Int32))] [(.int (57 : Int32)), (.int p1)])) _
          exact k
        by_cases s37 : (57 : Int32) < p1
        · refine own_go (B := s₁.setTop (mkF m 43 #[.val (.int p1), .val (.int (0 : Int32))] [(.int (43 : Int32)), (.int p1)])) (fun t k => ?_) ?_
          · show Steps p.tables e below (s₁.setTop (mkF m 37 #[.val (.int p1), .val (.int (0 : Int32))] [(.int (57 : Int32)), (.int p1)])) _
            refine XS.icmpNo X0.here hx rfl (hb hby d_prog_62_method_3_37) rfl (tlt s37).2.2.2 ?_
            show Steps p.tables e below (s₁.setTop (mkF m 40 #[.val (.int p1), .val (.int (0 : Int32))] [])) _
            refine XS.iloadN X0.here hx rfl (hb hby d_prog_62_method_3_40) rfl ?_
            show Steps p.tables e below (s₁.setTop (mkF m 41 #[.val (.int p1), .val (.int (0 : Int32))] [(.int p1)])) _
            refine XS.bipush X0.here hx rfl (hb hby d_prog_62_method_3_41) ?_
            show Steps p.tables e below (s₁.setTop (mkF m 43 #[.val (.int p1), .val (.int (0 : Int32))] [(.int (43 : Int32)), (.int p1)])) _
            exact k
          by_cases s43 : p1 = (43 : Int32)
          · refine own_go (B := s₁.setTop (mkF m 63 #[.val (.int p1), .val (.int (0 : Int32))] [(.int (1 : Int32))])) (fun t k => ?_) ?_
            · show Steps p.tables e below (s₁.setTop (mkF m 43 #[.val (.int p1), .val (.int (0 : Int32))] [(.int (43 : Int32)), (.int p1)])) _
              refine XS.icmpYes X0.here hx rfl (pc0 := 43) (pc' := 58) rfl (hb hby d_prog_62_method_3_43) rfl (teq s43).1 (by decide) (by decide) ?_
              show Steps p.tables e below (s₁.setTop (mkF m 58 #[.val (.int p1), .val (.int (0 : Int32))] [])) _
              refine XS.iconst X0.here hx rfl (hb hby d_prog_62_method_3_58) ?_
              show Steps p.tables e below (s₁.setTop (mkF m 59 #[.val (.int p1), .val (.int (0 : Int32))] [(.int (1 : Int32))])) _
              refine XS.goto X0.here hx rfl (pc0 := 59) (pc' := 63) rfl (hb hby d_prog_62_method_3_59) (by decide) (by decide) ?_
              show Steps p.tables e below (s₁.setTop (mkF m 63 #[.val (.int p1), .val (.int (0 : Int32))] [(.int (1 : Int32))])) _
              exact k
            obtain ⟨fs, hr, hrun, hended, hW, hsame⟩ := X0.leave (v := some (.int (1 : Int32))) (fun h => by rw [Bd.returns] at h; cases h)
            refine ⟨_, _, retN X0 hx (t := .boolean) Bd.returns (by simp) (hb hby d_prog_62_method_3_63) hr, hfin _ _ ⟨hrun, hended, _, _, rfl, ?_, ⟨_, rfl⟩, hW, hsame.mono (by decide) (by decide)⟩⟩
            show QSc0 Z p1 h0 n0 _ s₁.heap _
            exact ⟨(1 : Int32), rfl, N, e0, (fun _ => rfl), (fun qq_ => absurd (show _ from (Or.inr (Or.inr (Or.inl s43)))) qq_)⟩
          · refine own_go (B := s₁.setTop (mkF m 49 #[.val (.int p1), .val (.int (0 : Int32))] [(.int (45 : Int32)), (.int p1)])) (fun t k => ?_) ?_
            · show Steps p.tables e below (s₁.setTop (mkF m 43 #[.val (.int p1), .val (.int (0 : Int32))] [(.int (43 : Int32)), (.int p1)])) _
              refine XS.icmpNo X0.here hx rfl (hb hby d_prog_62_method_3_43) rfl (feq s43).1 ?_
              show Steps p.tables e below (s₁.setTop (mkF m 46 #[.val (.int p1), .val (.int (0 : Int32))] [])) _
              refine XS.iloadN X0.here hx rfl (hb hby d_prog_62_method_3_46) rfl ?_
              show Steps p.tables e below (s₁.setTop (mkF m 47 #[.val (.int p1), .val (.int (0 : Int32))] [(.int p1)])) _
              refine XS.bipush X0.here hx rfl (hb hby d_prog_62_method_3_47) ?_
              show Steps p.tables e below (s₁.setTop (mkF m 49 #[.val (.int p1), .val (.int (0 : Int32))] [(.int (45 : Int32)), (.int p1)])) _
              exact k
            by_cases s49 : p1 = (45 : Int32)
            · refine own_go (B := s₁.setTop (mkF m 63 #[.val (.int p1), .val (.int (0 : Int32))] [(.int (1 : Int32))])) (fun t k => ?_) ?_
              · show Steps p.tables e below (s₁.setTop (mkF m 49 #[.val (.int p1), .val (.int (0 : Int32))] [(.int (45 : Int32)), (.int p1)])) _
                refine XS.icmpYes X0.here hx rfl (pc0 := 49) (pc' := 58) rfl (hb hby d_prog_62_method_3_49) rfl (teq s49).1 (by decide) (by decide) ?_
                show Steps p.tables e below (s₁.setTop (mkF m 58 #[.val (.int p1), .val (.int (0 : Int32))] [])) _
                refine XS.iconst X0.here hx rfl (hb hby d_prog_62_method_3_58) ?_
                show Steps p.tables e below (s₁.setTop (mkF m 59 #[.val (.int p1), .val (.int (0 : Int32))] [(.int (1 : Int32))])) _
                refine XS.goto X0.here hx rfl (pc0 := 59) (pc' := 63) rfl (hb hby d_prog_62_method_3_59) (by decide) (by decide) ?_
                show Steps p.tables e below (s₁.setTop (mkF m 63 #[.val (.int p1), .val (.int (0 : Int32))] [(.int (1 : Int32))])) _
                exact k
              obtain ⟨fs, hr, hrun, hended, hW, hsame⟩ := X0.leave (v := some (.int (1 : Int32))) (fun h => by rw [Bd.returns] at h; cases h)
              refine ⟨_, _, retN X0 hx (t := .boolean) Bd.returns (by simp) (hb hby d_prog_62_method_3_63) hr, hfin _ _ ⟨hrun, hended, _, _, rfl, ?_, ⟨_, rfl⟩, hW, hsame.mono (by decide) (by decide)⟩⟩
              show QSc0 Z p1 h0 n0 _ s₁.heap _
              exact ⟨(1 : Int32), rfl, N, e0, (fun _ => rfl), (fun qq_ => absurd (show _ from (Or.inr (Or.inr (Or.inr (Or.inl s49))))) qq_)⟩
            · refine own_go (B := s₁.setTop (mkF m 55 #[.val (.int p1), .val (.int (0 : Int32))] [(.int (46 : Int32)), (.int p1)])) (fun t k => ?_) ?_
              · show Steps p.tables e below (s₁.setTop (mkF m 49 #[.val (.int p1), .val (.int (0 : Int32))] [(.int (45 : Int32)), (.int p1)])) _
                refine XS.icmpNo X0.here hx rfl (hb hby d_prog_62_method_3_49) rfl (feq s49).1 ?_
                show Steps p.tables e below (s₁.setTop (mkF m 52 #[.val (.int p1), .val (.int (0 : Int32))] [])) _
                refine XS.iloadN X0.here hx rfl (hb hby d_prog_62_method_3_52) rfl ?_
                show Steps p.tables e below (s₁.setTop (mkF m 53 #[.val (.int p1), .val (.int (0 : Int32))] [(.int p1)])) _
                refine XS.bipush X0.here hx rfl (hb hby d_prog_62_method_3_53) ?_
                show Steps p.tables e below (s₁.setTop (mkF m 55 #[.val (.int p1), .val (.int (0 : Int32))] [(.int (46 : Int32)), (.int p1)])) _
                exact k
              by_cases s55 : p1 = (46 : Int32)
              · refine own_go (B := s₁.setTop (mkF m 63 #[.val (.int p1), .val (.int (0 : Int32))] [(.int (1 : Int32))])) (fun t k => ?_) ?_
                · show Steps p.tables e below (s₁.setTop (mkF m 55 #[.val (.int p1), .val (.int (0 : Int32))] [(.int (46 : Int32)), (.int p1)])) _
                  refine XS.icmpNo X0.here hx rfl (hb hby d_prog_62_method_3_55) rfl (teq s55).2 ?_
                  show Steps p.tables e below (s₁.setTop (mkF m 58 #[.val (.int p1), .val (.int (0 : Int32))] [])) _
                  refine XS.iconst X0.here hx rfl (hb hby d_prog_62_method_3_58) ?_
                  show Steps p.tables e below (s₁.setTop (mkF m 59 #[.val (.int p1), .val (.int (0 : Int32))] [(.int (1 : Int32))])) _
                  refine XS.goto X0.here hx rfl (pc0 := 59) (pc' := 63) rfl (hb hby d_prog_62_method_3_59) (by decide) (by decide) ?_
                  show Steps p.tables e below (s₁.setTop (mkF m 63 #[.val (.int p1), .val (.int (0 : Int32))] [(.int (1 : Int32))])) _
                  exact k
                obtain ⟨fs, hr, hrun, hended, hW, hsame⟩ := X0.leave (v := some (.int (1 : Int32))) (fun h => by rw [Bd.returns] at h; cases h)
                refine ⟨_, _, retN X0 hx (t := .boolean) Bd.returns (by simp) (hb hby d_prog_62_method_3_63) hr, hfin _ _ ⟨hrun, hended, _, _, rfl, ?_, ⟨_, rfl⟩, hW, hsame.mono (by decide) (by decide)⟩⟩
                show QSc0 Z p1 h0 n0 _ s₁.heap _
                exact ⟨(1 : Int32), rfl, N, e0, (fun _ => rfl), (fun qq_ => absurd (show _ from (Or.inr (Or.inr (Or.inr (Or.inr s55))))) qq_)⟩
              · refine own_go (B := s₁.setTop (mkF m 63 #[.val (.int p1), .val (.int (0 : Int32))] [(.int (0 : Int32))])) (fun t k => ?_) ?_
                · show Steps p.tables e below (s₁.setTop (mkF m 55 #[.val (.int p1), .val (.int (0 : Int32))] [(.int (46 : Int32)), (.int p1)])) _
                  refine XS.icmpYes X0.here hx rfl (pc0 := 55) (pc' := 62) rfl (hb hby d_prog_62_method_3_55) rfl (feq s55).2 (by decide) (by decide) ?_
                  show Steps p.tables e below (s₁.setTop (mkF m 62 #[.val (.int p1), .val (.int (0 : Int32))] [])) _
                  refine XS.iconst X0.here hx rfl (hb hby d_prog_62_method_3_62) ?_
                  show Steps p.tables e below (s₁.setTop (mkF m 63 #[.val (.int p1), .val (.int (0 : Int32))] [(.int (0 : Int32))])) _
                  exact k
                obtain ⟨fs, hr, hrun, hended, hW, hsame⟩ := X0.leave (v := some (.int (0 : Int32))) (fun h => by rw [Bd.returns] at h; cases h)
                refine ⟨_, _, retN X0 hx (t := .boolean) Bd.returns (by simp) (hb hby d_prog_62_method_3_63) hr, hfin _ _ ⟨hrun, hended, _, _, rfl, ?_, ⟨_, rfl⟩, hW, hsame.mono (by decide) (by decide)⟩⟩
                show QSc0 Z p1 h0 n0 _ s₁.heap _
                exact ⟨(0 : Int32), rfl, N, e0, (fun qq_ => absurd qq_ (fun z0 => z0.elim (fun z1 => z1.elim (fun z2 => (fun z3 => z3 s3) z2.1) (fun z2 => (fun z3 => z3 s15) z2.1)) (fun z1 => z1.elim (fun z2 => (fun z3 => z3 s37) z2.2) (fun z2 => z2.elim s43 (fun z3 => z3.elim s49 s55))))), (fun _ => rfl)⟩
        · refine own_go (B := s₁.setTop (mkF m 63 #[.val (.int p1), .val (.int (0 : Int32))] [(.int (1 : Int32))])) (fun t k => ?_) ?_
          · show Steps p.tables e below (s₁.setTop (mkF m 37 #[.val (.int p1), .val (.int (0 : Int32))] [(.int (57 : Int32)), (.int p1)])) _
            refine XS.icmpYes X0.here hx rfl (pc0 := 37) (pc' := 58) rfl (hb hby d_prog_62_method_3_37) rfl (flt s37).2.2.2 (by decide) (by decide) ?_
            show Steps p.tables e below (s₁.setTop (mkF m 58 #[.val (.int p1), .val (.int (0 : Int32))] [])) _
            refine XS.iconst X0.here hx rfl (hb hby d_prog_62_method_3_58) ?_
            show Steps p.tables e below (s₁.setTop (mkF m 59 #[.val (.int p1), .val (.int (0 : Int32))] [(.int (1 : Int32))])) _
            refine XS.goto X0.here hx rfl (pc0 := 59) (pc' := 63) rfl (hb hby d_prog_62_method_3_59) (by decide) (by decide) ?_
            show Steps p.tables e below (s₁.setTop (mkF m 63 #[.val (.int p1), .val (.int (0 : Int32))] [(.int (1 : Int32))])) _
            exact k
          obtain ⟨fs, hr, hrun, hended, hW, hsame⟩ := X0.leave (v := some (.int (1 : Int32))) (fun h => by rw [Bd.returns] at h; cases h)
          refine ⟨_, _, retN X0 hx (t := .boolean) Bd.returns (by simp) (hb hby d_prog_62_method_3_63) hr, hfin _ _ ⟨hrun, hended, _, _, rfl, ?_, ⟨_, rfl⟩, hW, hsame.mono (by decide) (by decide)⟩⟩
          show QSc0 Z p1 h0 n0 _ s₁.heap _
          exact ⟨(1 : Int32), rfl, N, e0, (fun _ => rfl), (fun qq_ => absurd (show _ from (Or.inr (Or.inl ⟨s31, s37⟩))) qq_)⟩
    · refine own_go (B := s₁.setTop (mkF m 21 #[.val (.int p1), .val (.int (0 : Int32))] [(.int (122 : Int32)), (.int p1)])) (fun t k => ?_) ?_
      · show Steps p.tables e below (s₁.setTop (mkF m 15 #[.val (.int p1), .val (.int (0 : Int32))] [(.int (97 : Int32)), (.int p1)])) _
        refine XS.icmpNo X0.here hx rfl (hb hby d_prog_62_method_3_15) rfl (flt s15).1 ?_
        show Steps p.tables e below (s₁.setTop (mkF m 18 #[.val (.int p1), .val (.int (0 : Int32))] [])) _
        refine XS.iloadN X0.here hx rfl (hb hby d_prog_62_method_3_18) rfl ?_
        show Steps p.tables e below (s₁.setTop (mkF m 19 #[.val (.int p1), .val (.int (0 : Int32))] [(.int p1)])) _
        refine XS.bipush X0.here hx rfl (hb hby d_prog_62_method_3_19) ?_
        show Steps p.tables e below (s₁.setTop (mkF m 21 #[.val (.int p1), .val (.int (0 : Int32))] [(.int (122 : Int32)), (.int p1)])) _
        exact k
      by_cases s21 : (122 : Int32) < p1
      · refine own_go (B := s₁.setTop (mkF m 31 #[.val (.int p1), .val (.int (0 : Int32))] [(.int (48 : Int32)), (.int p1)])) (fun t k => ?_) ?_
        · show Steps p.tables e below (s₁.setTop (mkF m 21 #[.val (.int p1), .val (.int (0 : Int32))] [(.int (122 : Int32)), (.int p1)])) _
          refine XS.icmpNo X0.here hx rfl (hb hby d_prog_62_method_3_21) rfl (tlt s21).2.2.2 ?_
          show Steps p.tables e below (s₁.setTop (mkF m 24 #[.val (.int p1), .val (.int (0 : Int32))] [])) _
          refine XS.iloadN X0.here hx rfl (hb hby d_prog_62_method_3_24) rfl ?_
          show Steps p.tables e below (s₁.setTop (mkF m 25 #[.val (.int p1), .val (.int (0 : Int32))] [(.int (0 : Int32))])) _
          refine XS.ifNo X0.here hx rfl (hb hby d_prog_62_method_3_25) rfl ((if0 _ _).trans (teq (by decide)).2) ?_
          show Steps p.tables e below (s₁.setTop (mkF m 28 #[.val (.int p1), .val (.int (0 : Int32))] [])) _
          refine XS.iloadN X0.here hx rfl (hb hby d_prog_62_method_3_28) rfl ?_
          show Steps p.tables e below (s₁.setTop (mkF m 29 #[.val (.int p1), .val (.int (0 : Int32))] [(.int p1)])) _
          refine XS.bipush X0.here hx rfl (hb hby d_prog_62_method_3_29) ?_
          show Steps p.tables e below (s₁.setTop (mkF m 31 #[.val (.int p1), .val (.int (0 : Int32))] [(.int (48 : Int32)), (.int p1)])) _
          exact k
        by_cases s31 : p1 < (48 : Int32)
        · refine own_go (B := s₁.setTop (mkF m 43 #[.val (.int p1), .val (.int (0 : Int32))] [(.int (43 : Int32)), (.int p1)])) (fun t k => ?_) ?_
          · show Steps p.tables e below (s₁.setTop (mkF m 31 #[.val (.int p1), .val (.int (0 : Int32))] [(.int (48 : Int32)), (.int p1)])) _
            refine XS.icmpYes X0.here hx rfl (pc0 := 31) (pc' := 40) rfl (hb hby d_prog_62_method_3_31) rfl (tlt s31).1 (by decide) (by decide) ?_
            show Steps p.tables e below (s₁.setTop (mkF m 40 #[.val (.int p1), .val (.int (0 : Int32))] [])) _
            refine XS.iloadN X0.here hx rfl (hb hby d_prog_62_method_3_40) rfl ?_
            show Steps p.tables e below (s₁.setTop (mkF m 41 #[.val (.int p1), .val (.int (0 : Int32))] [(.int p1)])) _
            refine XS.bipush X0.here hx rfl (hb hby d_prog_62_method_3_41) ?_
            show Steps p.tables e below (s₁.setTop (mkF m 43 #[.val (.int p1), .val (.int (0 : Int32))] [(.int (43 : Int32)), (.int p1)])) _
            exact k
          by_cases s43 : p1 = (43 : Int32)
          · refine own_go (B := s₁.setTop (mkF m 63 #[.val (.int p1), .val (.int (0 : Int32))] [(.int (1 : Int32))])) (fun t k => ?_) ?_
            · show Steps p.tables e below (s₁.setTop (mkF m 43 #[.val (.int p1), .val (.int (0 : Int32))] [(.int (43 : Int32)), (.int p1)])) _
              refine XS.icmpYes X0.here hx rfl (pc0 := 43) (pc' := 58) rfl (hb hby d_prog_62_method_3_43) rfl (teq s43).1 (by decide) (by decide) ?_
              show Steps p.tables e below (s₁.setTop (mkF m 58 #[.val (.int p1), .val (.int (0 : Int32))] [])) _
              refine XS.iconst X0.here hx rfl (hb hby d_prog_62_method_3_58) ?_
              show Steps p.tables e below (s₁.setTop (mkF m 59 #[.val (.int p1), .val (.int (0 : Int32))] [(.int (1 : Int32))])) _
              refine XS.goto X0.here hx rfl (pc0 := 59) (pc' := 63) rfl (hb hby d_prog_62_method_3_59) (by decide) (by decide) ?_
              show Steps p.tables e below (s₁.setTop (mkF m 63 #[.val (.int p1), .val (.int (0 : Int32))] [(.int (1 : Int32))])) _
              exact k
            obtain ⟨fs, hr, hrun, hended, hW, hsame⟩ := X0.leave (v := some (.int (1 : Int32))) (fun h => by rw [Bd.returns] at h; cases h)
            refine ⟨_, _, retN X0 hx (t := .boolean) Bd.returns (by simp) (hb hby d_prog_62_method_3_63) hr, hfin _ _ ⟨hrun, hended, _, _, rfl, ?_, ⟨_, rfl⟩, hW, hsame.mono (by decide) (by decide)⟩⟩
            show QSc0 Z p1 h0 n0 _ s₁.heap _
            exact ⟨(1 : Int32), rfl, N, e0, (fun _ => rfl), (fun qq_ => absurd (show _ from (Or.inr (Or.inr (Or.inl s43)))) qq_)⟩
          · refine own_go (B := s₁.setTop (mkF m 49 #[.val (.int p1), .val (.int (0 : Int32))] [(.int (45 : Int32)), (.int p1)])) (fun t k => ?_) ?_
            · show Steps p.tables e below (s₁.setTop (mkF m 43 #[.val (.int p1), .val (.int (0 : Int32))] [(.int (43 : Int32)), (.int p1)])) _
              refine XS.icmpNo X0.here hx rfl (hb hby d_prog_62_method_3_43) rfl (feq s43).1 ?_
              show Steps p.tables e below (s₁.setTop (mkF m 46 #[.val (.int p1), .val (.int (0 : Int32))] [])) _
              refine XS.iloadN X0.here hx rfl (hb hby d_prog_62_method_3_46) rfl ?_
              show Steps p.tables e below (s₁.setTop (mkF m 47 #[.val (.int p1), .val (.int (0 : Int32))] [(.int p1)])) _
              refine XS.bipush X0.here hx rfl (hb hby d_prog_62_method_3_47) ?_
              show Steps p.tables e below (s₁.setTop (mkF m 49 #[.val (.int p1), .val (.int (0 : Int32))] [(.int (45 : Int32)), (.int p1)])) _
              exact k
            by_cases s49 : p1 = (45 : Int32)
            · refine own_go (B := s₁.setTop (mkF m 63 #[.val (.int p1), .val (.int (0 : Int32))] [(.int (1 : Int32))])) (fun t k => ?_) ?_
              · show Steps p.tables e below (s₁.setTop (mkF m 49 #[.val (.int p1), .val (.int (0 : Int32))] [(.int (45 : Int32)), (.int p1)])) _
                refine XS.icmpYes X0.here hx rfl (pc0 := 49) (pc' := 58) rfl (hb hby d_prog_62_method_3_49) rfl (teq s49).1 (by decide) (by decide) ?_
                show Steps p.tables e below (s₁.setTop (mkF m 58 #[.val (.int p1), .val (.int (0 : Int32))] [])) _
                refine XS.iconst X0.here hx rfl (hb hby d_prog_62_method_3_58) ?_
                show Steps p.tables e below (s₁.setTop (mkF m 59 #[.val (.int p1), .val (.int (0 : Int32))] [(.int (1 : Int32))])) _
                refine XS.goto X0.here hx rfl (pc0 := 59) (pc' := 63) rfl (hb hby d_prog_62_method_3_59) (by decide) (by decide) ?_
                show Steps p.tables e below (s₁.setTop (mkF m 63 #[.val (.int p1), .val (.int (0 : Int32))] [(.int (1 : Int32))])) _
                exact k
              obtain ⟨fs, hr, hrun, hended, hW, hsame⟩ := X0.leave (v := some (.int (1 : Int32))) (fun h => by rw [Bd.returns] at h; cases h)
              refine ⟨_, _, retN X0 hx (t := .boolean) Bd.returns (by simp) (hb hby d_prog_62_method_3_63) hr, hfin _ _ ⟨hrun, hended, _, _, rfl, ?_, ⟨_, rfl⟩, hW, hsame.mono (by decide) (by decide)⟩⟩
              show QSc0 Z p1 h0 n0 _ s₁.heap _
              exact ⟨(1 : Int32), rfl, N, e0, (fun _ => rfl), (fun qq_ => absurd (show _ from (Or.inr (Or.inr (Or.inr (Or.inl s49))))) qq_)⟩
            · refine own_go (B := s₁.setTop (mkF m 55 #[.val (.int p1), .val (.int (0 : Int32))] [(.int (46 : Int32)), (.int p1)])) (fun t k => ?_) ?_
              · show Steps p.tables e below (s₁.setTop (mkF m 49 #[.val (.int p1), .val (.int (0 : Int32))] [(.int (45 : Int32)), (.int p1)])) _
                refine XS.icmpNo X0.here hx rfl (hb hby d_prog_62_method_3_49) rfl (feq s49).1 ?_
                show Steps p.tables e below (s₁.setTop (mkF m 52 #[.val (.int p1), .val (.int (0 : Int32))] [])) _
                refine XS.iloadN X0.here hx rfl (hb hby d_prog_62_method_3_52) rfl ?_
                show Steps p.tables e below (s₁.setTop (mkF m 53 #[.val (.int p1), .val (.int (0 : Int32))] [(.int p1)])) _
                refine XS.bipush X0.here hx rfl (hb hby d_prog_62_method_3_53) ?_
                show Steps p.tables e below (s₁.setTop (mkF m 55 #[.val (.int p1), .val (.int (0 : Int32))] [(.int (46 : Int32)), (.int p1)])) _
                exact k
              by_cases s55 : p1 = (46 : Int32)
              · refine own_go (B := s₁.setTop (mkF m 63 #[.val (.int p1), .val (.int (0 : Int32))] [(.int (1 : Int32))])) (fun t k => ?_) ?_
                · show Steps p.tables e below (s₁.setTop (mkF m 55 #[.val (.int p1), .val (.int (0 : Int32))] [(.int (46 : Int32)), (.int p1)])) _
                  refine XS.icmpNo X0.here hx rfl (hb hby d_prog_62_method_3_55) rfl (teq s55).2 ?_
                  show Steps p.tables e below (s₁.setTop (mkF m 58 #[.val (.int p1), .val (.int (0 : Int32))] [])) _
                  refine XS.iconst X0.here hx rfl (hb hby d_prog_62_method_3_58) ?_
                  show Steps p.tables e below (s₁.setTop (mkF m 59 #[.val (.int p1), .val (.int (0 : Int32))] [(.int (1 : Int32))])) _
                  refine XS.goto X0.here hx rfl (pc0 := 59) (pc' := 63) rfl (hb hby d_prog_62_method_3_59) (by decide) (by decide) ?_
                  show Steps p.tables e below (s₁.setTop (mkF m 63 #[.val (.int p1), .val (.int (0 : Int32))] [(.int (1 : Int32))])) _
                  exact k
                obtain ⟨fs, hr, hrun, hended, hW, hsame⟩ := X0.leave (v := some (.int (1 : Int32))) (fun h => by rw [Bd.returns] at h; cases h)
                refine ⟨_, _, retN X0 hx (t := .boolean) Bd.returns (by simp) (hb hby d_prog_62_method_3_63) hr, hfin _ _ ⟨hrun, hended, _, _, rfl, ?_, ⟨_, rfl⟩, hW, hsame.mono (by decide) (by decide)⟩⟩
                show QSc0 Z p1 h0 n0 _ s₁.heap _
                exact ⟨(1 : Int32), rfl, N, e0, (fun _ => rfl), (fun qq_ => absurd (show _ from (Or.inr (Or.inr (Or.inr (Or.inr s55))))) qq_)⟩
              · refine own_go (B := s₁.setTop (mkF m 63 #[.val (.int p1), .val (.int (0 : Int32))] [(.int (0 : Int32))])) (fun t k => ?_) ?_
                · show Steps p.tables e below (s₁.setTop (mkF m 55 #[.val (.int p1), .val (.int (0 : Int32))] [(.int (46 : Int32)), (.int p1)])) _
                  refine XS.icmpYes X0.here hx rfl (pc0 := 55) (pc' := 62) rfl (hb hby d_prog_62_method_3_55) rfl (feq s55).2 (by decide) (by decide) ?_
                  show Steps p.tables e below (s₁.setTop (mkF m 62 #[.val (.int p1), .val (.int (0 : Int32))] [])) _
                  refine XS.iconst X0.here hx rfl (hb hby d_prog_62_method_3_62) ?_
                  show Steps p.tables e below (s₁.setTop (mkF m 63 #[.val (.int p1), .val (.int (0 : Int32))] [(.int (0 : Int32))])) _
                  exact k
                obtain ⟨fs, hr, hrun, hended, hW, hsame⟩ := X0.leave (v := some (.int (0 : Int32))) (fun h => by rw [Bd.returns] at h; cases h)
                refine ⟨_, _, retN X0 hx (t := .boolean) Bd.returns (by simp) (hb hby d_prog_62_method_3_63) hr, hfin _ _ ⟨hrun, hended, _, _, rfl, ?_, ⟨_, rfl⟩, hW, hsame.mono (by decide) (by decide)⟩⟩
                show QSc0 Z p1 h0 n0 _ s₁.heap _
                exact ⟨(0 : Int32), rfl, N, e0, (fun qq_ => absurd qq_ (fun z0 => z0.elim (fun z1 => z1.elim (fun z2 => (fun z3 => z3 s3) z2.1) (fun z2 => (fun z3 => z3 s21) z2.2)) (fun z1 => z1.elim (fun z2 => (fun z3 => z3 s31) z2.1) (fun z2 => z2.elim s43 (fun z3 => z3.elim s49 s55))))), (fun _ => rfl)⟩
        · refine own_go (B := s₁.setTop (mkF m 37 #[.val (.int p1), .val (.int (0 : Int32))] [(.int (57 : Int32)), (.int p1)])) (fun t k => ?_) ?_
          · show Steps p.tables e below (s₁.setTop (mkF m 31 #[.val (.int p1), .val (.int (0 : Int32))] [(.int (48 : Int32)), (.int p1)])) _
            refine XS.icmpNo X0.here hx rfl (hb hby d_prog_62_method_3_31) rfl (flt s31).1 ?_
            show Steps p.tables e below (s₁.setTop (mkF m 34 #[.val (.int p1), .val (.int (0 : Int32))] [])) _
            refine XS.iloadN X0.here hx rfl (hb hby d_prog_62_method_3_34) rfl ?_
            show Steps p.tables e below (s₁.setTop (mkF m 35 #[.val (.int p1), .val (.int (0 : Int32))] [(.int p1)])) _
            refine XS.bipush X0.here hx rfl (hb hby d_prog_62_method_3_35) ?_
            show Steps p.tables e below (s₁.setTop (mkF m 37 #[.val (.int p1), .val (.int (0 : Int32))] [(.int (57 : Int32)), (.int p1)])) _
            exact k
          by_cases s37 : (57 : Int32) < p1
          · refine own_go (B := s₁.setTop (mkF m 43 #[.val (.int p1), .val (.int (0 : Int32))] [(.int (43 : Int32)), (.int p1)])) (fun t k => ?_) ?_
            · show Steps p.tables e below (s₁.setTop (mkF m 37 #[.val (.int p1), .val (.int (0 : Int32))] [(.int (57 : Int32)), (.int p1)])) _
              refine XS.icmpNo X0.here hx rfl (hb hby d_prog_62_method_3_37) rfl (tlt s37).2.2.2 ?_
              show Steps p.tables e below (s₁.setTop (mkF m 40 #[.val (.int p1), .val (.int (0 : Int32))] [])) _
              refine XS.iloadN X0.here hx rfl (hb hby d_prog_62_method_3_40) rfl ?_
              show Steps p.tables e below (s₁.setTop (mkF m 41 #[.val (.int p1), .val (.int (0 : Int32))] [(.int p1)])) _
              refine XS.bipush X0.here hx rfl (hb hby d_prog_62_method_3_41) ?_
              show Steps p.tables e below (s₁.setTop (mkF m 43 #[.val (.int p1), .val (.int (0 : Int32))] [(.int (43 : Int32)), (.int p1)])) _
              exact k
            by_cases s43 : p1 = (43 : Int32)
            · refine own_go (B := s₁.setTop (mkF m 63 #[.val (.int p1), .val (.int (0 : Int32))] [(.int (1 : Int32))])) (fun t k => ?_) ?_
              · show Steps p.tables e below (s₁.setTop (mkF m 43 #[.val (.int p1), .val (.int (0 : Int32))] [(.int (43 : Int32)), (.int p1)])) _
                refine XS.icmpYes X0.here hx rfl (pc0 := 43) (pc' := 58) rfl (hb hby d_prog_62_method_3_43) rfl (teq s43).1 (by decide) (by decide) ?_
                show Steps p.tables e below (s₁.setTop (mkF m 58 #[.val (.int p1), .val (.int (0 : Int32))] [])) _
                refine XS.iconst X0.here hx rfl (hb hby d_prog_62_method_3_58) ?_
                show Steps p.tables e below (s₁.setTop (mkF m 59 #[.val (.int p1), .val (.int (0 : Int32))] [(.int (1 : Int32))])) _
                refine XS.goto X0.here hx rfl (pc0 := 59) (pc' := 63) rfl (hb hby d_prog_62_method_3_59) (by decide) (by decide) ?_
                show Steps p.tables e below (s₁.setTop (mkF m 63 #[.val (.int p1), .val (.int (0 : Int32))] [(.int (1 : Int32))])) _
                exact k
              obtain ⟨fs, hr, hrun, hended, hW, hsame⟩ := X0.leave (v := some (.int (1 : Int32))) (fun h => by rw [Bd.returns] at h; cases h)
              refine ⟨_, _, retN X0 hx (t := .boolean) Bd.returns (by simp) (hb hby d_prog_62_method_3_63) hr, hfin _ _ ⟨hrun, hended, _, _, rfl, ?_, ⟨_, rfl⟩, hW, hsame.mono (by decide) (by decide)⟩⟩
              show QSc0 Z p1 h0 n0 _ s₁.heap _
              exact ⟨(1 : Int32), rfl, N, e0, (fun _ => rfl), (fun qq_ => absurd (show _ from (Or.inr (Or.inr (Or.inl s43)))) qq_)⟩
            · refine own_go (B := s₁.setTop (mkF m 49 #[.val (.int p1), .val (.int (0 : Int32))] [(.int (45 : Int32)), (.int p1)])) (fun t k => ?_) ?_
              · show Steps p.tables e below (s₁.setTop (mkF m 43 #[.val (.int p1), .val (.int (0 : Int32))] [(.int (43 : Int32)), (.int p1)])) _
                refine XS.icmpNo X0.here hx rfl (hb hby d_prog_62_method_3_43) rfl (feq s43).1 ?_
                show Steps p.tables e below (s₁.setTop (mkF m 46 #[.val (.int p1), .val (.int (0 : Int32))] [])) _
                refine XS.iloadN X0.here hx rfl (hb hby d_prog_62_method_3_46) rfl ?_
                show Steps p.tables e below (s₁.setTop (mkF m 47 #[.val (.int p1), .val (.int (0 : Int32))] [(.int p1)])) _
                refine XS.bipush X0.here hx rfl (hb hby d_prog_62_method_3_47) ?_
                show Steps p.tables e below (s₁.setTop (mkF m 49 #[.val (.int p1), .val (.int (0 : Int32))] [(.int (45 : Int32)), (.int p1)])) _
                exact k
              by_cases s49 : p1 = (45 : Int32)
              · refine own_go (B := s₁.setTop (mkF m 63 #[.val (.int p1), .val (.int (0 : Int32))] [(.int (1 : Int32))])) (fun t k => ?_) ?_
                · show Steps p.tables e below (s₁.setTop (mkF m 49 #[.val (.int p1), .val (.int (0 : Int32))] [(.int (45 : Int32)), (.int p1)])) _
                  refine XS.icmpYes X0.here hx rfl (pc0 := 49) (pc' := 58) rfl (hb hby d_prog_62_method_3_49) rfl (teq s49).1 (by decide) (by decide) ?_
                  show Steps p.tables e below (s₁.setTop (mkF m 58 #[.val (.int p1), .val (.int (0 : Int32))] [])) _
                  refine XS.iconst X0.here hx rfl (hb hby d_prog_62_method_3_58) ?_
                  show Steps p.tables e below (s₁.setTop (mkF m 59 #[.val (.int p1), .val (.int (0 : Int32))] [(.int (1 : Int32))])) _
                  refine XS.goto X0.here hx rfl (pc0 := 59) (pc' := 63) rfl (hb hby d_prog_62_method_3_59) (by decide) (by decide) ?_
                  show Steps p.tables e below (s₁.setTop (mkF m 63 #[.val (.int p1), .val (.int (0 : Int32))] [(.int (1 : Int32))])) _
                  exact k
                obtain ⟨fs, hr, hrun, hended, hW, hsame⟩ := X0.leave (v := some (.int (1 : Int32))) (fun h => by rw [Bd.returns] at h; cases h)
                refine ⟨_, _, retN X0 hx (t := .boolean) Bd.returns (by simp) (hb hby d_prog_62_method_3_63) hr, hfin _ _ ⟨hrun, hended, _, _, rfl, ?_, ⟨_, rfl⟩, hW, hsame.mono (by decide) (by decide)⟩⟩
                show QSc0 Z p1 h0 n0 _ s₁.heap _
                exact ⟨(1 : Int32), rfl, N, e0, (fun _ => rfl), (fun qq_ => absurd (show _ from (Or.inr (Or.inr (Or.inr (Or.inl s49))))) qq_)⟩
              · refine own_go (B := s₁.setTop (mkF m 55 #[.val (.int p1), .val (.int (0 : Int32))] [(.int (46 : Int32)), (.int p1)])) (fun t k => ?_) ?_
                · show Steps p.tables e below (s₁.setTop (mkF m 49 #[.val (.int p1), .val (.int (0 : Int32))] [(.int (45 : Int32)), (.int p1)])) _
                  refine XS.icmpNo X0.here hx rfl (hb hby d_prog_62_method_3_49) rfl (feq s49).1 ?_
                  show Steps p.tables e below (s₁.setTop (mkF m 52 #[.val (.int p1), .val (.int (0 : Int32))] [])) _
                  refine XS.iloadN X0.here hx rfl (hb hby d_prog_62_method_3_52) rfl ?_
                  show Steps p.tables e below (s₁.setTop (mkF m 53 #[.val (.int p1), .val (.int (0 : Int32))] [(.int p1)])) _
                  refine XS.bipush X0.here hx rfl (hb hby d_prog_62_method_3_53) ?_
                  show Steps p.tables e below (s₁.setTop (mkF m 55 #[.val (.int p1), .val (.int (0 : Int32))] [(.int (46 : Int32)), (.int p1)])) _
                  exact k
                by_cases s55 : p1 = (46 : Int32)
                · refine own_go (B := s₁.setTop (mkF m 63 #[.val (.int p1), .val (.int (0 : Int32))] [(.int (1 : Int32))])) (fun t k => ?_) ?_
                  · show Steps p.tables e below (s₁.setTop (mkF m 55 #[.val (.int p1), .val (.int (0 : Int32))] [(.int (46 : Int32)), (.int p1)])) _
                    refine XS.icmpNo X0.here hx rfl (hb hby d_prog_62_method_3_55) rfl (teq s55).2 ?_
                    show Steps p.tables e below (s₁.setTop (mkF m 58 #[.val (.int p1), .val (.int (0 : Int32))] [])) _
                    refine XS.iconst X0.here hx rfl (hb hby d_prog_62_method_3_58) ?_
                    show Steps p.tables e below (s₁.setTop (mkF m 59 #[.val (.int p1), .val (.int (0 : Int32))] [(.int (1 : Int32))])) _
                    refine XS.goto X0.here hx rfl (pc0 := 59) (pc' := 63) rfl (hb hby d_prog_62_method_3_59) (by decide) (by decide) ?_
                    show Steps p.tables e below (s₁.setTop (mkF m 63 #[.val (.int p1), .val (.int (0 : Int32))] [(.int (1 : Int32))])) _
                    exact k
                  obtain ⟨fs, hr, hrun, hended, hW, hsame⟩ := X0.leave (v := some (.int (1 : Int32))) (fun h => by rw [Bd.returns] at h; cases h)
                  refine ⟨_, _, retN X0 hx (t := .boolean) Bd.returns (by simp) (hb hby d_prog_62_method_3_63) hr, hfin _ _ ⟨hrun, hended, _, _, rfl, ?_, ⟨_, rfl⟩, hW, hsame.mono (by decide) (by decide)⟩⟩
                  show QSc0 Z p1 h0 n0 _ s₁.heap _
                  exact ⟨(1 : Int32), rfl, N, e0, (fun _ => rfl), (fun qq_ => absurd (show _ from (Or.inr (Or.inr (Or.inr (Or.inr s55))))) qq_)⟩
                · refine own_go (B := s₁.setTop (mkF m 63 #[.val (.int p1), .val (.int (0 : Int32))] [(.int (0 : Int32))])) (fun t k => ?_) ?_
                  · show Steps p.tables e below (s₁.setTop (mkF m 55 #[.val (.int p1), .val (.int (0 : Int32))] [(.int (46 : Int32)), (.int p1)])) _
                    refine XS.icmpYes X0.here hx rfl (pc0 := 55) (pc' := 62) rfl (hb hby d_prog_62_method_3_55) rfl (feq s55).2 (by decide) (by decide) ?_
                    show Steps p.tables e below (s₁.setTop (mkF m 62 #[.val (.int p1), .val (.int (0 : Int32))] [])) _
                    refine XS.iconst X0.here hx rfl (hb hby d_prog_62_method_3_62) ?_
                    show Steps p.tables e below (s₁.setTop (mkF m 63 #[.val (.int p1), .val (.int (0 : Int32))] [(.int (0 : Int32))])) _
                    exact k
                  obtain ⟨fs, hr, hrun, hended, hW, hsame⟩ := X0.leave (v := some (.int (0 : Int32))) (fun h => by rw [Bd.returns] at h; cases h)
                  refine ⟨_, _, retN X0 hx (t := .boolean) Bd.returns (by simp) (hb hby d_prog_62_method_3_63) hr, hfin _ _ ⟨hrun, hended, _, _, rfl, ?_, ⟨_, rfl⟩, hW, hsame.mono (by decide) (by decide)⟩⟩
                  show QSc0 Z p1 h0 n0 _ s₁.heap _
                  exact ⟨(0 : Int32), rfl, N, e0, (fun qq_ => absurd qq_ (fun z0 => z0.elim (fun z1 => z1.elim (fun z2 => (fun z3 => z3 s3) z2.1) (fun z2 => (fun z3 => z3 s21) z2.2)) (fun z1 => z1.elim (fun z2 => (fun z3 => z3 s37) z2.2) (fun z2 => z2.elim s43 (fun z3 => z3.elim s49 s55))))), (fun _ => rfl)⟩
          · refine own_go (B := s₁.setTop (mkF m 63 #[.val (.int p1), .val (.int (0 : Int32))] [(.int (1 : Int32))])) (fun t k => ?_) ?_
            · show Steps p.tables e below (s₁.setTop (mkF m 37 #[.val (.int p1), .val (.int (0 : Int32))] [(.int (57 : Int32)), (.int p1)])) _
              refine XS.icmpYes X0.here hx rfl (pc0 := 37) (pc' := 58) rfl (hb hby d_prog_62_method_3_37) rfl (flt s37).2.2.2 (by decide) (by decide) ?_
              show Steps p.tables e below (s₁.setTop (mkF m 58 #[.val (.int p1), .val (.int (0 : Int32))] [])) _
              refine XS.iconst X0.here hx rfl (hb hby d_prog_62_method_3_58) ?_
              show Steps p.tables e below (s₁.setTop (mkF m 59 #[.val (.int p1), .val (.int (0 : Int32))] [(.int (1 : Int32))])) _
              refine XS.goto X0.here hx rfl (pc0 := 59) (pc' := 63) rfl (hb hby d_prog_62_method_3_59) (by decide) (by decide) ?_
              show Steps p.tables e below (s₁.setTop (mkF m 63 #[.val (.int p1), .val (.int (0 : Int32))] [(.int (1 : Int32))])) _
              exact k
            obtain ⟨fs, hr, hrun, hended, hW, hsame⟩ := X0.leave (v := some (.int (1 : Int32))) (fun h => by rw [Bd.returns] at h; cases h)
            refine ⟨_, _, retN X0 hx (t := .boolean) Bd.returns (by simp) (hb hby d_prog_62_method_3_63) hr, hfin _ _ ⟨hrun, hended, _, _, rfl, ?_, ⟨_, rfl⟩, hW, hsame.mono (by decide) (by decide)⟩⟩
            show QSc0 Z p1 h0 n0 _ s₁.heap _
            exact ⟨(1 : Int32), rfl, N, e0, (fun _ => rfl), (fun qq_ => absurd (show _ from (Or.inr (Or.inl ⟨s31, s37⟩))) qq_)⟩
      · refine own_go (B := s₁.setTop (mkF m 63 #[.val (.int p1), .val (.int (0 : Int32))] [(.int (1 : Int32))])) (fun t k => ?_) ?_
        · show Steps p.tables e below (s₁.setTop (mkF m 21 #[.val (.int p1), .val (.int (0 : Int32))] [(.int (122 : Int32)), (.int p1)])) _
          refine XS.icmpYes X0.here hx rfl (pc0 := 21) (pc' := 58) rfl (hb hby d_prog_62_method_3_21) rfl (flt s21).2.2.2 (by decide) (by decide) ?_
          show Steps p.tables e below (s₁.setTop (mkF m 58 #[.val (.int p1), .val (.int (0 : Int32))] [])) _
          refine XS.iconst X0.here hx rfl (hb hby d_prog_62_method_3_58) ?_
          show Steps p.tables e below (s₁.setTop (mkF m 59 #[.val (.int p1), .val (.int (0 : Int32))] [(.int (1 : Int32))])) _
          refine XS.goto X0.here hx rfl (pc0 := 59) (pc' := 63) rfl (hb hby d_prog_62_method_3_59) (by decide) (by decide) ?_
          show Steps p.tables e below (s₁.setTop (mkF m 63 #[.val (.int p1), .val (.int (0 : Int32))] [(.int (1 : Int32))])) _
          exact k
        obtain ⟨fs, hr, hrun, hended, hW, hsame⟩ := X0.leave (v := some (.int (1 : Int32))) (fun h => by rw [Bd.returns] at h; cases h)
        refine ⟨_, _, retN X0 hx (t := .boolean) Bd.returns (by simp) (hb hby d_prog_62_method_3_63) hr, hfin _ _ ⟨hrun, hended, _, _, rfl, ?_, ⟨_, rfl⟩, hW, hsame.mono (by decide) (by decide)⟩⟩
        show QSc0 Z p1 h0 n0 _ s₁.heap _
        exact ⟨(1 : Int32), rfl, N, e0, (fun _ => rfl), (fun qq_ => absurd (show _ from (Or.inl (Or.inr ⟨s15, s21⟩))) qq_)⟩
  · refine own_go (B := s₁.setTop (mkF m 9 #[.val (.int p1), .val (.int (0 : Int32))] [(.int (90 : Int32)), (.int p1)])) (fun t k => ?_) ?_
    · show Steps p.tables e below (s₁.setTop (mkF m 3 #[.val (.int p1), .val (.int (0 : Int32))] [(.int (65 : Int32)), (.int p1)])) _
      refine XS.icmpNo X0.here hx rfl (hb hby d_prog_62_method_3_3) rfl (flt s3).1 ?_
      show Steps p.tables e below (s₁.setTop (mkF m 6 #[.val (.int p1), .val (.int (0 : Int32))] [])) _
      refine XS.iloadN X0.here hx rfl (hb hby d_prog_62_method_3_6) rfl ?_
      show Steps p.tables e below (s₁.setTop (mkF m 7 #[.val (.int p1), .val (.int (0 : Int32))] [(.int p1)])) _
      refine XS.bipush X0.here hx rfl (hb hby d_prog_62_method_3_7) ?_
      show Steps p.tables e below (s₁.setTop (mkF m 9 #[.val (.int p1), .val (.int (0 : Int32))] [(.int (90 : Int32)), (.int p1)])) _
      exact k
    by_cases s9 : (90 : Int32) < p1
    · refine own_go (B := s₁.setTop (mkF m 15 #[.val (.int p1), .val (.int (0 : Int32))] [(.int (97 : Int32)), (.int p1)])) (fun t k => ?_) ?_
      · show Steps p.tables e below (s₁.setTop (mkF m 9 #[.val (.int p1), .val (.int (0 : Int32))] [(.int (90 : Int32)), (.int p1)])) _
        refine XS.icmpNo X0.here hx rfl (hb hby d_prog_62_method_3_9) rfl (tlt s9).2.2.2 ?_
        show Steps p.tables e below (s₁.setTop (mkF m 12 #[.val (.int p1), .val (.int (0 : Int32))] [])) _
        refine XS.iloadN X0.here hx rfl (hb hby d_prog_62_method_3_12) rfl ?_
        show Steps p.tables e below (s₁.setTop (mkF m 13 #[.val (.int p1), .val (.int (0 : Int32))] [(.int p1)])) _
        refine XS.bipush X0.here hx rfl (hb hby d_prog_62_method_3_13) ?_
        show Steps p.tables e below (s₁.setTop (mkF m 15 #[.val (.int p1), .val (.int (0 : Int32))] [(.int (97 : Int32)), (.int p1)])) _
        exact k
      by_cases s15 : p1 < (97 : Int32)
      · refine own_go (B := s₁.setTop (mkF m 31 #[.val (.int p1), .val (.int (0 : Int32))] [(.int (48 : Int32)), (.int p1)])) (fun t k => ?_) ?_
        · show Steps p.tables e below (s₁.setTop (mkF m 15 #[.val (.int p1), .val (.int (0 : Int32))] [(.int (97 : Int32)), (.int p1)])) _
          refine XS.icmpYes X0.here hx rfl (pc0 := 15) (pc' := 24) rfl (hb hby d_prog_62_method_3_15) rfl (tlt s15).1 (by decide) (by decide) ?_
          show Steps p.tables e below (s₁.setTop (mkF m 24 #[.val (.int p1), .val (.int (0 : Int32))] [])) _
          refine XS.iloadN X0.here hx rfl (hb hby d_prog_62_method_3_24) rfl ?_
          show Steps p.tables e below (s₁.setTop (mkF m 25 #[.val (.int p1), .val (.int (0 : Int32))] [(.int (0 : Int32))])) _
          refine XS.ifNo X0.here hx rfl (hb hby d_prog_62_method_3_25) rfl ((if0 _ _).trans (teq (by decide)).2) ?_
          show Steps p.tables e below (s₁.setTop (mkF m 28 #[.val (.int p1), .val (.int (0 : Int32))] [])) _
          refine XS.iloadN X0.here hx rfl (hb hby d_prog_62_method_3_28) rfl ?_
          show Steps p.tables e below (s₁.setTop (mkF m 29 #[.val (.int p1), .val (.int (0 : Int32))] [(.int p1)])) _
          refine XS.bipush X0.here hx rfl (hb hby d_prog_62_method_3_29) ?_
          show Steps p.tables e below (s₁.setTop (mkF m 31 #[.val (.int p1), .val (.int (0 : Int32))] [(.int (48 : Int32)), (.int p1)])) _
          exact k
        by_cases s31 : p1 < (48 : Int32)
        · refine own_go (B := s₁.setTop (mkF m 43 #[.val (.int p1), .val (.int (0 : Int32))] [(.int (43 : Int32)), (.int p1)])) (fun t k => ?_) ?_
          · show Steps p.tables e below (s₁.setTop (mkF m 31 #[.val (.int p1), .val (.int (0 : Int32))] [(.int (48 : Int32)), (.int p1)])) _
            refine XS.icmpYes X0.here hx rfl (pc0 := 31) (pc' := 40) rfl (hb hby d_prog_62_method_3_31) rfl (tlt s31).1 (by decide) (by decide) ?_
            show Steps p.tables e below (s₁.setTop (mkF m 40 #[.val (.int p1), .val (.int (0 : Int32))] [])) _
            refine XS.iloadN X0.here hx rfl (hb hby d_prog_62_method_3_40) rfl ?_
            show Steps p.tables e below (s₁.setTop (mkF m 41 #[.val (.int p1), .val (.int (0 : Int32))] [(.int p1)])) _
            refine XS.bipush X0.here hx rfl (hb hby d_prog_62_method_3_41) ?_
            show Steps p.tables e below (s₁.setTop (mkF m 43 #[.val (.int p1), .val (.int (0 : Int32))] [(.int (43 : Int32)), (.int p1)])) _
            exact k
          by_cases s43 : p1 = (43 : Int32)
          · refine own_go (B := s₁.setTop (mkF m 63 #[.val (.int p1), .val (.int (0 : Int32))] [(.int (1 : Int32))])) (fun t k => ?_) ?_
            · show Steps p.tables e below (s₁.setTop (mkF m 43 #[.val (.int p1), .val (.int (0 : Int32))] [(.int (43 : Int32)), (.int p1)])) _
              refine XS.icmpYes X0.here hx rfl (pc0 := 43) (pc' := 58) rfl (hb hby d_prog_62_method_3_43) rfl (teq s43).1 (by decide) (by decide) ?_
              show Steps p.tables e below (s₁.setTop (mkF m 58 #[.val (.int p1), .val (.int (0 : Int32))] [])) _
              refine XS.iconst X0.here hx rfl (hb hby d_prog_62_method_3_58) ?_
              show Steps p.tables e below (s₁.setTop (mkF m 59 #[.val (.int p1), .val (.int (0 : Int32))] [(.int (1 : Int32))])) _
              refine XS.goto X0.here hx rfl (pc0 := 59) (pc' := 63) rfl (hb hby d_prog_62_method_3_59) (by decide) (by decide) ?_
              show Steps p.tables e below (s₁.setTop (mkF m 63 #[.val (.int p1), .val (.int (0 : Int32))] [(.int (1 : Int32))])) _
              exact k
            obtain ⟨fs, hr, hrun, hended, hW, hsame⟩ := X0.leave (v := some (.int (1 : Int32))) (fun h => by rw [Bd.returns] at h; cases h)
            refine ⟨_, _, retN X0 hx (t := .boolean) Bd.returns (by simp) (hb hby d_prog_62_method_3_63) hr, hfin _ _ ⟨hrun, hended, _, _, rfl, ?_, ⟨_, rfl⟩, hW, hsame.mono (by decide) (by decide)⟩⟩
            show QSc0 Z p1 h0 n0 _ s₁.heap _
            exact ⟨(1 : Int32), rfl, N, e0, (fun _ => rfl), (fun qq_ => absurd (show _ from (Or.inr (Or.inr (Or.inl s43)))) qq_)⟩
          · refine own_go (B := s₁.setTop (mkF m 49 #[.val (.int p1), .val (.int (0 : Int32))] [(.int (45 : Int32)), (.int p1)])) (fun t k => ?_) ?_
            · show Steps p.tables e below (s₁.setTop (mkF m 43 #[.val (.int p1), .val (.int (0 : Int32))] [(.int (43 : Int32)), (.int p1)])) _
              refine XS.icmpNo X0.here hx rfl (hb hby d_prog_62_method_3_43) rfl (feq s43).1 ?_
              show Steps p.tables e below (s₁.setTop (mkF m 46 #[.val (.int p1), .val (.int (0 : Int32))] [])) _
              refine XS.iloadN X0.here hx rfl (hb hby d_prog_62_method_3_46) rfl ?_
              show Steps p.tables e below (s₁.setTop (mkF m 47 #[.val (.int p1), .val (.int (0 : Int32))] [(.int p1)])) _
              refine XS.bipush X0.here hx rfl (hb hby d_prog_62_method_3_47) ?_
              show Steps p.tables e below (s₁.setTop (mkF m 49 #[.val (.int p1), .val (.int (0 : Int32))] [(.int (45 : Int32)), (.int p1)])) _
              exact k
            by_cases s49 : p1 = (45 : Int32)
            · refine own_go (B := s₁.setTop (mkF m 63 #[.val (.int p1), .val (.int (0 : Int32))] [(.int (1 : Int32))])) (fun t k => ?_) ?_
              · show Steps p.tables e below (s₁.setTop (mkF m 49 #[.val (.int p1), .val (.int (0 : Int32))] [(.int (45 : Int32)), (.int p1)])) _
                refine XS.icmpYes X0.here hx rfl (pc0 := 49) (pc' := 58) rfl (hb hby d_prog_62_method_3_49) rfl (teq s49).1 (by decide) (by decide) ?_
                show Steps p.tables e below (s₁.setTop (mkF m 58 #[.val (.int p1), .val (.int (0 : Int32))] [])) _
                refine XS.iconst X0.here hx rfl (hb hby d_prog_62_method_3_58) ?_
                show Steps p.tables e below (s₁.setTop (mkF m 59 #[.val (.int p1), .val (.int (0 : Int32))] [(.int (1 : Int32))])) _
                refine XS.goto X0.here hx rfl (pc0 := 59) (pc' := 63) rfl (hb hby d_prog_62_method_3_59) (by decide) (by decide) ?_
                show Steps p.tables e below (s₁.setTop (mkF m 63 #[.val (.int p1), .val (.int (0 : Int32))] [(.int (1 : Int32))])) _
                exact k
              obtain ⟨fs, hr, hrun, hended, hW, hsame⟩ := X0.leave (v := some (.int (1 : Int32))) (fun h => by rw [Bd.returns] at h; cases h)
              refine ⟨_, _, retN X0 hx (t := .boolean) Bd.returns (by simp) (hb hby d_prog_62_method_3_63) hr, hfin _ _ ⟨hrun, hended, _, _, rfl, ?_, ⟨_, rfl⟩, hW, hsame.mono (by decide) (by decide)⟩⟩
              show QSc0 Z p1 h0 n0 _ s₁.heap _
              exact ⟨(1 : Int32), rfl, N, e0, (fun _ => rfl), (fun qq_ => absurd (show _ from (Or.inr (Or.inr (Or.inr (Or.inl s49))))) qq_)⟩
            · refine own_go (B := s₁.setTop (mkF m 55 #[.val (.int p1), .val (.int (0 : Int32))] [(.int (46 : Int32)), (.int p1)])) (fun t k => ?_) ?_
              · show Steps p.tables e below (s₁.setTop (mkF m 49 #[.val (.int p1), .val (.int (0 : Int32))] [(.int (45 : Int32)), (.int p1)])) _
                refine XS.icmpNo X0.here hx rfl (hb hby d_prog_62_method_3_49) rfl (feq s49).1 ?_
                show Steps p.tables e below (s₁.setTop (mkF m 52 #[.val (.int p1), .val (.int (0 : Int32))] [])) _
                refine XS.iloadN X0.here hx rfl (hb hby d_prog_62_method_3_52) rfl ?_
                show Steps p.tables e below (s₁.setTop (mkF m 53 #[.val (.int p1), .val (.int (0 : Int32))] [(.int p1)])) _
                refine XS.bipush X0.here hx rfl (hb hby d_prog_62_method_3_53) ?_
                show Steps p.tables e below (s₁.setTop (mkF m 55 #[.val (.int p1), .val (.int (0 : Int32))] [(.int (46 : Int32)), (.int p1)])) _
                exact k
              by_cases s55 : p1 = (46 : Int32)
              · refine own_go (B := s₁.setTop (mkF m 63 #[.val (.int p1), .val (.int (0 : Int32))] [(.int (1 : Int32))])) (fun t k => ?_) ?_
                · show Steps p.tables e below (s₁.setTop (mkF m 55 #[.val (.int p1), .val (.int (0 : Int32))] [(.int (46 : Int32)), (.int p1)])) _
                  refine XS.icmpNo X0.here hx rfl (hb hby d_prog_62_method_3_55) rfl (teq s55).2 ?_
                  show Steps p.tables e below (s₁.setTop (mkF m 58 #[.val (.int p1), .val (.int (0 : Int32))] [])) _
                  refine XS.iconst X0.here hx rfl (hb hby d_prog_62_method_3_58) ?_
                  show Steps p.tables e below (s₁.setTop (mkF m 59 #[.val (.int p1), .val (.int (0 : Int32))] [(.int (1 : Int32))])) _
                  refine XS.goto X0.here hx rfl (pc0 := 59) (pc' := 63) rfl (hb hby d_prog_62_method_3_59) (by decide) (by decide) ?_
                  show Steps p.tables e below (s₁.setTop (mkF m 63 #[.val (.int p1), .val (.int (0 : Int32))] [(.int (1 : Int32))])) _
                  exact k
                obtain ⟨fs, hr, hrun, hended, hW, hsame⟩ := X0.leave (v := some (.int (1 : Int32))) (fun h => by rw [Bd.returns] at h; cases h)
                refine ⟨_, _, retN X0 hx (t := .boolean) Bd.returns (by simp) (hb hby d_prog_62_method_3_63) hr, hfin _ _ ⟨hrun, hended, _, _, rfl, ?_, ⟨_, rfl⟩, hW, hsame.mono (by decide) (by decide)⟩⟩
                show QSc0 Z p1 h0 n0 _ s₁.heap _
                exact ⟨(1 : Int32), rfl, N, e0, (fun _ => rfl), (fun qq_ => absurd (show _ from (Or.inr (Or.inr (Or.inr (Or.inr s55))))) qq_)⟩
              · refine own_go (B := s₁.setTop (mkF m 63 #[.val (.int p1), .val (.int (0 : Int32))] [(.int (0 : Int32))])) (fun t k => ?_) ?_
                · show Steps p.tables e below (s₁.setTop (mkF m 55 #[.val (.int p1), .val (.int (0 : Int32))] [(.int (46 : Int32)), (.int p1)])) _
                  refine XS.icmpYes X0.here hx rfl (pc0 := 55) (pc' := 62) rfl (hb hby d_prog_62_method_3_55) rfl (feq s55).2 (by decide) (by decide) ?_
                  show Steps p.tables e below (s₁.setTop (mkF m 62 #[.val (.int p1), .val (.int (0 : Int32))] [])) _
                  refine XS.iconst X0.here hx rfl (hb hby d_prog_62_method_3_62) ?_
                  show Steps p.tables e below (s₁.setTop (mkF m 63 #[.val (.int p1), .val (.int (0 : Int32))] [(.int (0 : Int32))])) _
                  exact k
                obtain ⟨fs, hr, hrun, hended, hW, hsame⟩ := X0.leave (v := some (.int (0 : Int32))) (fun h => by rw [Bd.returns] at h; cases h)
                refine ⟨_, _, retN X0 hx (t := .boolean) Bd.returns (by simp) (hb hby d_prog_62_method_3_63) hr, hfin _ _ ⟨hrun, hended, _, _, rfl, ?_, ⟨_, rfl⟩, hW, hsame.mono (by decide) (by decide)⟩⟩
                show QSc0 Z p1 h0 n0 _ s₁.heap _
                exact ⟨(0 : Int32), rfl, N, e0, (fun qq_ => absurd qq_ (fun z0 => z0.elim (fun z1 => z1.elim (fun z2 => (fun z3 => z3 s9) z2.2) (fun z2 => (fun z3 => z3 s15) z2.1)) (fun z1 => z1.elim (fun z2 => (fun z3 => z3 s31) z2.1) (fun z2 => z2.elim s43 (fun z3 => z3.elim s49 s55))))), (fun _ => rfl)⟩
        · refine own_go (B := s₁.setTop (mkF m 37 #[.val (.int p1), .val (.int (0 : Int32))] [(.int (57 : Int32)), (.int p1)])) (fun t k => ?_) ?_
          · show Steps p.tables e below (s₁.setTop (mkF m 31 #[.val (.int p1), .val (.int (0 : Int32))] [(.int (48 : Int32)), (.int p1)])) _
            refine XS.icmpNo X0.here hx rfl (hb hby d_prog_62_method_3_31) rfl (flt s31).1 ?_
            show Steps p.tables e below (s₁.setTop (mkF m 34 #[.val (.int p1), .val (.int (0 : Int32))] [])) _
            refine XS.iloadN X0.here hx rfl (hb hby d_prog_62_method_3_34) rfl ?_
            show Steps p.tables e below (s₁.setTop (mkF m 35 #[.val (.int p1), .val (.int (0 : Int32))] [(.int p1)])) _
            refine XS.bipush X0.here hx rfl (hb hby d_prog_62_method_3_35) ?_
            show Steps p.tables e below (s₁.setTop (mkF m 37 #[.val (.int p1), .val (.int (0 : Int32))] [(.int (57 : Int32)), (.int p1)])) _
            exact k
          by_cases s37 : (57 : Int32) < p1
          · refine own_go (B := s₁.setTop (mkF m 43 #[.val (.int p1), .val (.int (0 : Int32))] [(.int (43 : Int32)), (.int p1)])) (fun t k => ?_) ?_
            · show Steps p.tables e below (s₁.setTop (mkF m 37 #[.val (.int p1), .val (.int (0 : Int32))] [(.int (57 : Int32)), (.int p1)])) _
              refine XS.icmpNo X0.here hx rfl (hb hby d_prog_62_method_3_37) rfl (tlt s37).2.2.2 ?_
              show Steps p.tables e below (s₁.setTop (mkF m 40 #[.val (.int p1), .val (.int (0 : Int32))] [])) _
              refine XS.iloadN X0.here hx rfl (hb hby d_prog_62_method_3_40) rfl ?_
              show Steps p.tables e below (s₁.setTop (mkF m 41 #[.val (.int p1), .val (.int (0 : Int32))] [(.int p1)])) _
              refine XS.bipush X0.here hx rfl (hb hby d_prog_62_method_3_41) ?_
              show Steps p.tables e below (s₁.setTop (mkF m 43 #[.val (.int p1), .val (.int (0 : Int32))] [(.int (43 : Int32)), (.int p1)])) _
              exact k
            by_cases s43 : p1 = (43 : Int32)
            · refine own_go (B := s₁.setTop (mkF m 63 #[.val (.int p1), .val (.int (0 : Int32))] [(.int (1 : Int32))])) (fun t k => ?_) ?_
              · show Steps p.tables e below (s₁.setTop (mkF m 43 #[.val (.int p1), .val (.int (0 : Int32))] [(.int (43 : Int32)), (.int p1)])) _
                refine XS.icmpYes X0.here hx rfl (pc0 := 43) (pc' := 58) rfl (hb hby d_prog_62_method_3_43) rfl (teq s43).1 (by decide) (by decide) ?_
                show Steps p.tables e below (s₁.setTop (mkF m 58 #[.val (.int p1), .val (.int (0 : Int32))] [])) _
                refine XS.iconst X0.here hx rfl (hb hby d_prog_62_method_3_58) ?_
                show Steps p.tables e below (s₁.setTop (mkF m 59 #[.val (.int p1), .val (.int (0 : Int32))] [(.int (1 : Int32))])) _
                refine XS.goto X0.here hx rfl (pc0 := 59) (pc' := 63) rfl (hb hby d_prog_62_method_3_59) (by decide) (by decide) ?_
                show Steps p.tables e below (s₁.setTop (mkF m 63 #[.val (.int p1), .val (.int (0 : Int32))] [(.int (1 : Int32))])) _
                exact k
              obtain ⟨fs, hr, hrun, hended, hW, hsame⟩ := X0.leave (v := some (.int (1 : Int32))) (fun h => by rw [Bd.returns] at h; cases h)
              refine ⟨_, _, retN X0 hx (t := .boolean) Bd.returns (by simp) (hb hby d_prog_62_method_3_63) hr, hfin _ _ ⟨hrun, hended, _, _, rfl, ?_, ⟨_, rfl⟩, hW, hsame.mono (by decide) (by decide)⟩⟩
              show QSc0 Z p1 h0 n0 _ s₁.heap _
              exact ⟨(1 : Int32), rfl, N, e0, (fun _ => rfl), (fun qq_ => absurd (show _ from (Or.inr (Or.inr (Or.inl s43)))) qq_)⟩
            · refine own_go (B := s₁.setTop (mkF m 49 #[.val (.int p1), .val (.int (0 : Int32))] [(.int (45 : Int32)), (.int p1)])) (fun t k => ?_) ?_
              · show Steps p.tables e below (s₁.setTop (mkF m 43 #[.val (.int p1), .val (.int (0 : Int32))] [(.int (43 : Int32)), (.int p1)])) _
                refine XS.icmpNo X0.here hx rfl (hb hby d_prog_62_method_3_43) rfl (feq s43).1 ?_
                show Steps p.tables e below (s₁.setTop (mkF m 46 #[.val (.int p1), .val (.int (0 : Int32))] [])) _
                refine XS.iloadN X0.here hx rfl (hb hby d_prog_62_method_3_46) rfl ?_
                show Steps p.tables e below (s₁.setTop (mkF m 47 #[.val (.int p1), .val (.int (0 : Int32))] [(.int p1)])) _
                refine XS.bipush X0.here hx rfl (hb hby d_prog_62_method_3_47) ?_
                show Steps p.tables e below (s₁.setTop (mkF m 49 #[.val (.int p1), .val (.int (0 : Int32))] [(.int (45 : Int32)), (.int p1)])) _
                exact k
              by_cases s49 : p1 = (45 : Int32)
              · refine own_go (B := s₁.setTop (mkF m 63 #[.val (.int p1), .val (.int (0 : Int32))] [(.int (1 : Int32))])) (fun t k => ?_) ?_
                · show Steps p.tables e below (s₁.setTop (mkF m 49 #[.val (.int p1), .val (.int (0 : Int32))] [(.int (45 : Int32)), (.int p1)])) _
                  refine XS.icmpYes X0.here hx rfl (pc0 := 49) (pc' := 58) rfl (hb hby d_prog_62_method_3_49) rfl (teq s49).1 (by decide) (by decide) ?_
                  show Steps p.tables e below (s₁.setTop (mkF m 58 #[.val (.int p1), .val (.int (0 : Int32))] [])) _
                  refine XS.iconst X0.here hx rfl (hb hby d_prog_62_method_3_58) ?_
                  show Steps p.tables e below (s₁.setTop (mkF m 59 #[.val (.int p1), .val (.int (0 : Int32))] [(.int (1 : Int32))])) _
                  refine XS.goto X0.here hx rfl (pc0 := 59) (pc' := 63) rfl (hb hby d_prog_62_method_3_59) (by decide) (by decide) ?_
                  show Steps p.tables e below (s₁.setTop (mkF m 63 #[.val (.int p1), .val (.int (0 : Int32))] [(.int (1 : Int32))])) _
                  exact k
                obtain ⟨fs, hr, hrun, hended, hW, hsame⟩ := X0.leave (v := some (.int (1 : Int32))) (fun h => by rw [Bd.returns] at h; cases h)
                refine ⟨_, _, retN X0 hx (t := .boolean) Bd.returns (by simp) (hb hby d_prog_62_method_3_63) hr, hfin _ _ ⟨hrun, hended, _, _, rfl, ?_, ⟨_, rfl⟩, hW, hsame.mono (by decide) (by decide)⟩⟩
                show QSc0 Z p1 h0 n0 _ s₁.heap _
                exact ⟨(1 : Int32), rfl, N, e0, (fun _ => rfl), (fun qq_ => absurd (show _ from (Or.inr (Or.inr (Or.inr (Or.inl s49))))) qq_)⟩
              · refine own_go (B := s₁.setTop (mkF m 55 #[.val (.int p1), .val (.int (0 : Int32))] [(.int (46 : Int32)), (.int p1)])) (fun t k => ?_) ?_
                · show Steps p.tables e below (s₁.setTop (mkF m 49 #[.val (.int p1), .val (.int (0 : Int32))] [(.int (45 : Int32)), (.int p1)])) _
                  refine XS.icmpNo X0.here hx rfl (hb hby d_prog_62_method_3_49) rfl (feq s49).1 ?_
                  show Steps p.tables e below (s₁.setTop (mkF m 52 #[.val (.int p1), .val (.int (0 : Int32))] [])) _
                  refine XS.iloadN X0.here hx rfl (hb hby d_prog_62_method_3_52) rfl ?_
                  show Steps p.tables e below (s₁.setTop (mkF m 53 #[.val (.int p1), .val (.int (0 : Int32))] [(.int p1)])) _
                  refine XS.bipush X0.here hx rfl (hb hby d_prog_62_method_3_53) ?_
                  show Steps p.tables e below (s₁.setTop (mkF m 55 #[.val (.int p1), .val (.int (0 : Int32))] [(.int (46 : Int32)), (.int p1)])) _
                  exact k
                by_cases s55 : p1 = (46 : Int32)
                · refine own_go (B := s₁.setTop (mkF m 63 #[.val (.int p1), .val (.int (0 : Int32))] [(.int (1 : Int32))])) (fun t k => ?_) ?_
                  · show Steps p.tables e below (s₁.setTop (mkF m 55 #[.val (.int p1), .val (.int (0 : Int32))] [(.int (46 : Int32)), (.int p1)])) _
                    refine XS.icmpNo X0.here hx rfl (hb hby d_prog_62_method_3_55) rfl (teq s55).2 ?_
                    show Steps p.tables e below (s₁.setTop (mkF m 58 #[.val (.int p1), .val (.int (0 : Int32))] [])) _
                    refine XS.iconst X0.here hx rfl (hb hby d_prog_62_method_3_58) ?_
                    show Steps p.tables e below (s₁.setTop (mkF m 59 #[.val (.int p1), .val (.int (0 : Int32))] [(.int (1 : Int32))])) _
                    refine XS.goto X0.here hx rfl (pc0 := 59) (pc' := 63) rfl (hb hby d_prog_62_method_3_59) (by decide) (by decide) ?_
                    show Steps p.tables e below (s₁.setTop (mkF m 63 #[.val (.int p1), .val (.int (0 : Int32))] [(.int (1 : Int32))])) _
                    exact k
                  obtain ⟨fs, hr, hrun, hended, hW, hsame⟩ := X0.leave (v := some (.int (1 : Int32))) (fun h => by rw [Bd.returns] at h; cases h)
                  refine ⟨_, _, retN X0 hx (t := .boolean) Bd.returns (by simp) (hb hby d_prog_62_method_3_63) hr, hfin _ _ ⟨hrun, hended, _, _, rfl, ?_, ⟨_, rfl⟩, hW, hsame.mono (by decide) (by decide)⟩⟩
                  show QSc0 Z p1 h0 n0 _ s₁.heap _
                  exact ⟨(1 : Int32), rfl, N, e0, (fun _ => rfl), (fun qq_ => absurd (show _ from (Or.inr (Or.inr (Or.inr (Or.inr s55))))) qq_)⟩
                · refine own_go (B := s₁.setTop (mkF m 63 #[.val (.int p1), .val (.int (0 : Int32))] [(.int (0 : Int32))])) (fun t k => ?_) ?_
                  · show Steps p.tables e below (s₁.setTop (mkF m 55 #[.val (.int p1), .val (.int (0 : Int32))] [(.int (46 : Int32)), (.int p1)])) _
                    refine XS.icmpYes X0.here hx rfl (pc0 := 55) (pc' := 62) rfl (hb hby d_prog_62_method_3_55) rfl (feq s55).2 (by decide) (by decide) ?_
                    show Steps p.tables e below (s₁.setTop (mkF m 62 #[.val (.int p1), .val (.int (0 : Int32))] [])) _
                    refine XS.iconst X0.here hx rfl (hb hby d_prog_62_method_3_62) ?_
                    show Steps p.tables e below (s₁.setTop (mkF m 63 #[.val (.int p1), .val (.int (0 : Int32))] [(.int (0 : Int32))])) _
                    exact k
                  obtain ⟨fs, hr, hrun, hended, hW, hsame⟩ := X0.leave (v := some (.int (0 : Int32))) (fun h => by rw [Bd.returns] at h; cases h)
                  refine ⟨_, _, retN X0 hx (t := .boolean) Bd.returns (by simp) (hb hby d_prog_62_method_3_63) hr, hfin _ _ ⟨hrun, hended, _, _, rfl, ?_, ⟨_, rfl⟩, hW, hsame.mono (by decide) (by decide)⟩⟩
                  show QSc0 Z p1 h0 n0 _ s₁.heap _
                  exact ⟨(0 : Int32), rfl, N, e0, (fun qq_ => absurd qq_ (fun z0 => z0.elim (fun z1 => z1.elim (fun z2 => (fun z3 => z3 s9) z2.2) (fun z2 => (fun z3 => z3 s15) z2.1)) (fun z1 => z1.elim (fun z2 => (fun z3 => z3 s37) z2.2) (fun z2 => z2.elim s43 (fun z3 => z3.elim s49 s55))))), (fun _ => rfl)⟩
          · refine own_go (B := s₁.setTop (mkF m 63 #[.val (.int p1), .val (.int (0 : Int32))] [(.int (1 : Int32))])) (fun t k => ?_) ?_
            · show Steps p.tables e below (s₁.setTop (mkF m 37 #[.val (.int p1), .val (.int (0 : Int32))] [(.int (57 : Int32)), (.int p1)])) _
              refine XS.icmpYes X0.here hx rfl (pc0 := 37) (pc' := 58) rfl (hb hby d_prog_62_method_3_37) rfl (flt s37).2.2.2 (by decide) (by decide) ?_
              show Steps p.tables e below (s₁.setTop (mkF m 58 #[.val (.int p1), .val (.int (0 : Int32))] [])) _
              refine XS.iconst X0.here hx rfl (hb hby d_prog_62_method_3_58) ?_
              show Steps p.tables e below (s₁.setTop (mkF m 59 #[.val (.int p1), .val (.int (0 : Int32))] [(.int (1 : Int32))])) _
              refine XS.goto X0.here hx rfl (pc0 := 59) (pc' := 63) rfl (hb hby d_prog_62_method_3_59) (by decide) (by decide) ?_
              show Steps p.tables e below (s₁.setTop (mkF m 63 #[.val (.int p1), .val (.int (0 : Int32))] [(.int (1 : Int32))])) _
              exact k
            obtain ⟨fs, hr, hrun, hended, hW, hsame⟩ := X0.leave (v := some (.int (1 : Int32))) (fun h => by rw [Bd.returns] at h; cases h)
            refine ⟨_, _, retN X0 hx (t := .boolean) Bd.returns (by simp) (hb hby d_prog_62_method_3_63) hr, hfin _ _ ⟨hrun, hended, _, _, rfl, ?_, ⟨_, rfl⟩, hW, hsame.mono (by decide) (by decide)⟩⟩
            show QSc0 Z p1 h0 n0 _ s₁.heap _
            exact ⟨(1 : Int32), rfl, N, e0, (fun _ => rfl), (fun qq_ => absurd (show _ from (Or.inr (Or.inl ⟨s31, s37⟩))) qq_)⟩
      · refine own_go (B := s₁.setTop (mkF m 21 #[.val (.int p1), .val (.int (0 : Int32))] [(.int (122 : Int32)), (.int p1)])) (fun t k => ?_) ?_
        · show Steps p.tables e below (s₁.setTop (mkF m 15 #[.val (.int p1), .val (.int (0 : Int32))] [(.int (97 : Int32)), (.int p1)])) _
          refine XS.icmpNo X0.here hx rfl (hb hby d_prog_62_method_3_15) rfl (flt s15).1 ?_
          show Steps p.tables e below (s₁.setTop (mkF m 18 #[.val (.int p1), .val (.int (0 : Int32))] [])) _
          refine XS.iloadN X0.here hx rfl (hb hby d_prog_62_method_3_18) rfl ?_
          show Steps p.tables e below (s₁.setTop (mkF m 19 #[.val (.int p1), .val (.int (0 : Int32))] [(.int p1)])) _
          refine XS.bipush X0.here hx rfl (hb hby d_prog_62_method_3_19) ?_
          show Steps p.tables e below (s₁.setTop (mkF m 21 #[.val (.int p1), .val (.int (0 : Int32))] [(.int (122 : Int32)), (.int p1)])) _
          exact k
        by_cases s21 : (122 : Int32) < p1
        · refine own_go (B := s₁.setTop (mkF m 31 #[.val (.int p1), .val (.int (0 : Int32))] [(.int (48 : Int32)), (.int p1)])) (fun t k => ?_) ?_
          · show Steps p.tables e below (s₁.setTop (mkF m 21 #[.val (.int p1), .val (.int (0 : Int32))] [(.int (122 : Int32)), (.int p1)])) _
            refine XS.icmpNo X0.here hx rfl (hb hby d_prog_62_method_3_21) rfl (tlt s21).2.2.2 ?_
            show Steps p.tables e below (s₁.setTop (mkF m 24 #[.val (.int p1), .val (.int (0 : Int32))] [])) _
            refine XS.iloadN X0.here hx rfl (hb hby d_prog_62_method_3_24) rfl ?_
            show Steps p.tables e below (s₁.setTop (mkF m 25 #[.val (.int p1), .val (.int (0 : Int32))] [(.int (0 : Int32))])) _
            refine XS.ifNo X0.here hx rfl (hb hby d_prog_62_method_3_25) rfl ((if0 _ _).trans (teq (by decide)).2) ?_
            show Steps p.tables e below (s₁.setTop (mkF m 28 #[.val (.int p1), .val (.int (0 : Int32))] [])) _
            refine XS.iloadN X0.here hx rfl (hb hby d_prog_62_method_3_28) rfl ?_
            show Steps p.tables e below (s₁.setTop (mkF m 29 #[.val (.int p1), .val (.int (0 : Int32))] [(.int p1)])) _
            refine XS.bipush X0.here hx rfl (hb hby d_prog_62_method_3_29) ?_
            show Steps p.tables e below (s₁.setTop (mkF m 31 #[.val (.int p1), .val (.int (0 : Int32))] [(.int (48 : Int32)), (.int p1)])) _
            exact k
          by_cases s31 : p1 < (48 : Int32)
          · refine own_go (B := s₁.setTop (mkF m 43 #[.val (.int p1), .val (.int (0 : Int32))] [(.int (43 : Int32)), (.int p1)])) (fun t k => ?_) ?_
            · show Steps p.tables e below (s₁.setTop (mkF m 31 #[.val (.int p1), .val (.int (0 : Int32))] [(.int (48 : Int32)), (.int p1)])) _
              refine XS.icmpYes X0.here hx rfl (pc0 := 31) (pc' := 40) rfl (hb hby d_prog_62_method_3_31) rfl (tlt s31).1 (by decide) (by decide) ?_
              show Steps p.tables e below (s₁.setTop (mkF m 40 #[.val (.int p1), .val (.int (0 : Int32))] [])) _
              refine XS.iloadN X0.here hx rfl (hb hby d_prog_62_method_3_40) rfl ?_
              show Steps p.tables e below (s₁.setTop (mkF m 41 #[.val (.int p1), .val (.int (0 : Int32))] [(.int p1)])) _
              refine XS.bipush X0.here hx rfl (hb hby d_prog_62_method_3_41) ?_
              show Steps p.tables e below (s₁.setTop (mkF m 43 #[.val (.int p1), .val (.int (0 : Int32))] [(.int (43 : Int32)), (.int p1)])) _
              exact k
            by_cases s43 : p1 = (43 : Int32)
            · refine own_go (B := s₁.setTop (mkF m 63 #[.val (.int p1), .val (.int (0 : Int32))] [(.int (1 : Int32))])) (fun t k => ?_) ?_
              · show Steps p.tables e below (s₁.setTop (mkF m 43 #[.val (.int p1), .val (.int (0 : Int32))] [(.int (43 : Int32)), (.int p1)])) _
                refine XS.icmpYes X0.here hx rfl (pc0 := 43) (pc' := 58) rfl (hb hby d_prog_62_method_3_43) rfl (teq s43).1 (by decide) (by decide) ?_
                show Steps p.tables e below (s₁.setTop (mkF m 58 #[.val (.int p1), .val (.int (0 : Int32))] [])) _
                refine XS.iconst X0.here hx rfl (hb hby d_prog_62_method_3_58) ?_
                show Steps p.tables e below (s₁.setTop (mkF m 59 #[.val (.int p1), .val (.int (0 : Int32))] [(.int (1 : Int32))])) _
                refine XS.goto X0.here hx rfl (pc0 := 59) (pc' := 63) rfl (hb hby d_prog_62_method_3_59) (by decide) (by decide) ?_
                show Steps p.tables e below (s₁.setTop (mkF m 63 #[.val (.int p1), .val (.int (0 : Int32))] [(.int (1 : Int32))])) _
                exact k
              obtain ⟨fs, hr, hrun, hended, hW, hsame⟩ := X0.leave (v := some (.int (1 : Int32))) (fun h => by rw [Bd.returns] at h; cases h)
              refine ⟨_, _, retN X0 hx (t := .boolean) Bd.returns (by simp) (hb hby d_prog_62_method_3_63) hr, hfin _ _ ⟨hrun, hended, _, _, rfl, ?_, ⟨_, rfl⟩, hW, hsame.mono (by decide) (by decide)⟩⟩
              show QSc0 Z p1 h0 n0 _ s₁.heap _
              exact ⟨(1 : Int32), rfl, N, e0, (fun _ => rfl), (fun qq_ => absurd (show _ from (Or.inr (Or.inr (Or.inl s43)))) qq_)⟩
            · refine own_go (B := s₁.setTop (mkF m 49 #[.val (.int p1), .val (.int (0 : Int32))] [(.int (45 : Int32)), (.int p1)])) (fun t k => ?_) ?_
              · show Steps p.tables e below (s₁.setTop (mkF m 43 #[.val (.int p1), .val (.int (0 : Int32))] [(.int (43 : Int32)), (.int p1)])) _
                refine XS.icmpNo X0.here hx rfl (hb hby d_prog_62_method_3_43) rfl (feq s43).1 ?_
                show Steps p.tables e below (s₁.setTop (mkF m 46 #[.val (.int p1), .val (.int (0 : Int32))] [])) _
                refine XS.iloadN X0.here hx rfl (hb hby d_prog_62_method_3_46) rfl ?_
                show Steps p.tables e below (s₁.setTop (mkF m 47 #[.val (.int p1), .val (.int (0 : Int32))] [(.int p1)])) _
                refine XS.bipush X0.here hx rfl (hb hby d_prog_62_method_3_47) ?_
                show Steps p.tables e below (s₁.setTop (mkF m 49 #[.val (.int p1), .val (.int (0 : Int32))] [(.int (45 : Int32)), (.int p1)])) _
                exact k
              by_cases s49 : p1 = (45 : Int32)
              · refine own_go (B := s₁.setTop (mkF m 63 #[.val (.int p1), .val (.int (0 : Int32))] [(.int (1 : Int32))])) (fun t k => ?_) ?_
                · show Steps p.tables e below (s₁.setTop (mkF m 49 #[.val (.int p1), .val (.int (0 : Int32))] [(.int (45 : Int32)), (.int p1)])) _
                  refine XS.icmpYes X0.here hx rfl (pc0 := 49) (pc' := 58) rfl (hb hby d_prog_62_method_3_49) rfl (teq s49).1 (by decide) (by decide) ?_
                  show Steps p.tables e below (s₁.setTop (mkF m 58 #[.val (.int p1), .val (.int (0 : Int32))] [])) _
                  refine XS.iconst X0.here hx rfl (hb hby d_prog_62_method_3_58) ?_
                  show Steps p.tables e below (s₁.setTop (mkF m 59 #[.val (.int p1), .val (.int (0 : Int32))] [(.int (1 : Int32))])) _
                  refine XS.goto X0.here hx rfl (pc0 := 59) (pc' := 63) rfl (hb hby d_prog_62_method_3_59) (by decide) (by decide) ?_
                  show Steps p.tables e below (s₁.setTop (mkF m 63 #[.val (.int p1), .val (.int (0 : Int32))] [(.int (1 : Int32))])) _
                  exact k
                obtain ⟨fs, hr, hrun, hended, hW, hsame⟩ := X0.leave (v := some (.int (1 : Int32))) (fun h => by rw [Bd.returns] at h; cases h)
                refine ⟨_, _, retN X0 hx (t := .boolean) Bd.returns (by simp) (hb hby d_prog_62_method_3_63) hr, hfin _ _ ⟨hrun, hended, _, _, rfl, ?_, ⟨_, rfl⟩, hW, hsame.mono (by decide) (by decide)⟩⟩
                show QSc0 Z p1 h0 n0 _ s₁.heap _
                exact ⟨(1 : Int32), rfl, N, e0, (fun _ => rfl), (fun qq_ => absurd (show _ from (Or.inr (Or.inr (Or.inr (Or.inl s49))))) qq_)⟩
              · refine own_go (B := s₁.setTop (mkF m 55 #[.val (.int p1), .val (.int (0 : Int32))] [(.int (46 : Int32)), (.int p1)])) (fun t k => ?_) ?_
                · show Steps p.tables e below (s₁.setTop (mkF m 49 #[.val (.int p1), .val (.int (0 : Int32))] [(.int (45 : Int32)), (.int p1)])) _
                  refine XS.icmpNo X0.here hx rfl (hb hby d_prog_62_method_3_49) rfl (feq s49).1 ?_
                  show Steps p.tables e below (s₁.setTop (mkF m 52 #[.val (.int p1), .val (.int (0 : Int32))] [])) _
                  refine XS.iloadN X0.here hx rfl (hb hby d_prog_62_method_3_52) rfl ?_
                  show Steps p.tables e below (s₁.setTop (mkF m 53 #[.val (.int p1), .val (.int (0 : Int32))] [(.int p1)])) _
                  refine XS.bipush X0.here hx rfl (hb hby d_prog_62_method_3_53) ?_
                  show Steps p.tables e below (s₁.setTop (mkF m 55 #[.val (.int p1), .val (.int (0 : Int32))] [(.int (46 : Int32)), (.int p1)])) _
                  exact k
                by_cases s55 : p1 = (46 : Int32)
                · refine own_go (B := s₁.setTop (mkF m 63 #[.val (.int p1), .val (.int (0 : Int32))] [(.int (1 : Int32))])) (fun t k => ?_) ?_
                  · show Steps p.tables e below (s₁.setTop (mkF m 55 #[.val (.int p1), .val (.int (0 : Int32))] [(.int (46 : Int32)), (.int p1)])) _
                    refine XS.icmpNo X0.here hx rfl (hb hby d_prog_62_method_3_55) rfl (teq s55).2 ?_
                    show Steps p.tables e below (s₁.setTop (mkF m 58 #[.val (.int p1), .val (.int (0 : Int32))] [])) _
                    refine XS.iconst X0.here hx rfl (hb hby d_prog_62_method_3_58) ?_
                    show Steps p.tables e below (s₁.setTop (mkF m 59 #[.val (.int p1), .val (.int (0 : Int32))] [(.int (1 : Int32))])) _
                    refine XS.goto X0.here hx rfl (pc0 := 59) (pc' := 63) rfl (hb hby d_prog_62_method_3_59) (by decide) (by decide) ?_
                    show Steps p.tables e below (s₁.setTop (mkF m 63 #[.val (.int p1), .val (.int (0 : Int32))] [(.int (1 : Int32))])) _
                    exact k
                  obtain ⟨fs, hr, hrun, hended, hW, hsame⟩ := X0.leave (v := some (.int (1 : Int32))) (fun h => by rw [Bd.returns] at h; cases h)
                  refine ⟨_, _, retN X0 hx (t := .boolean) Bd.returns (by simp) (hb hby d_prog_62_method_3_63) hr, hfin _ _ ⟨hrun, hended, _, _, rfl, ?_, ⟨_, rfl⟩, hW, hsame.mono (by decide) (by decide)⟩⟩
                  show QSc0 Z p1 h0 n0 _ s₁.heap _
                  exact ⟨(1 : Int32), rfl, N, e0, (fun _ => rfl), (fun qq_ => absurd (show _ from (Or.inr (Or.inr (Or.inr (Or.inr s55))))) qq_)⟩
                · refine own_go (B := s₁.setTop (mkF m 63 #[.val (.int p1), .val (.int (0 : Int32))] [(.int (0 : Int32))])) (fun t k => ?_) ?_
                  · show Steps p.tables e below (s₁.setTop (mkF m 55 #[.val (.int p1), .val (.int (0 : Int32))] [(.int (46 : Int32)), (.int p1)])) _
                    refine XS.icmpYes X0.here hx rfl (pc0 := 55) (pc' := 62) rfl (hb hby d_prog_62_method_3_55) rfl (feq s55).2 (by decide) (by decide) ?_
                    show Steps p.tables e below (s₁.setTop (mkF m 62 #[.val (.int p1), .val (.int (0 : Int32))] [])) _
                    refine XS.iconst X0.here hx rfl (hb hby d_prog_62_method_3_62) ?_
                    show Steps p.tables e below (s₁.setTop (mkF m 63 #[.val (.int p1), .val (.int (0 : Int32))] [(.int (0 : Int32))])) _
                    exact k
                  obtain ⟨fs, hr, hrun, hended, hW, hsame⟩ := X0.leave (v := some (.int (0 : Int32))) (fun h => by rw [Bd.returns] at h; cases h)
                  refine ⟨_, _, retN X0 hx (t := .boolean) Bd.returns (by simp) (hb hby d_prog_62_method_3_63) hr, hfin _ _ ⟨hrun, hended, _, _, rfl, ?_, ⟨_, rfl⟩, hW, hsame.mono (by decide) (by decide)⟩⟩
                  show QSc0 Z p1 h0 n0 _ s₁.heap _
                  exact ⟨(0 : Int32), rfl, N, e0, (fun qq_ => absurd qq_ (fun z0 => z0.elim (fun z1 => z1.elim (fun z2 => (fun z3 => z3 s9) z2.2) (fun z2 => (fun z3 => z3 s21) z2.2)) (fun z1 => z1.elim (fun z2 => (fun z3 => z3 s31) z2.1) (fun z2 => z2.elim s43 (fun z3 => z3.elim s49 s55))))), (fun _ => rfl)⟩
          · refine own_go (B := s₁.setTop (mkF m 37 #[.val (.int p1), .val (.int (0 : Int32))] [(.int (57 : Int32)), (.int p1)])) (fun t k => ?_) ?_
            · show Steps p.tables e below (s₁.setTop (mkF m 31 #[.val (.int p1), .val (.int (0 : Int32))] [(.int (48 : Int32)), (.int p1)])) _
              refine XS.icmpNo X0.here hx rfl (hb hby d_prog_62_method_3_31) rfl (flt s31).1 ?_
              show Steps p.tables e below (s₁.setTop (mkF m 34 #[.val (.int p1), .val (.int (0 : Int32))] [])) _
              refine XS.iloadN X0.here hx rfl (hb hby d_prog_62_method_3_34) rfl ?_
              show Steps p.tables e below (s₁.setTop (mkF m 35 #[.val (.int p1), .val (.int (0 : Int32))] [(.int p1)])) _
              refine XS.bipush X0.here hx rfl (hb hby d_prog_62_method_3_35) ?_
              show Steps p.tables e below (s₁.setTop (mkF m 37 #[.val (.int p1), .val (.int (0 : Int32))] [(.int (57 : Int32)), (.int p1)])) _
              exact k
            by_cases s37 : (57 : Int32) < p1
            · refine own_go (B := s₁.setTop (mkF m 43 #[.val (.int p1), .val (.int (0 : Int32))] [(.int (43 : Int32)), (.int p1)])) (fun t k => ?_) ?_
              · show Steps p.tables e below (s₁.setTop (mkF m 37 #[.val (.int p1), .val (.int (0 : Int32))] [(.int (57 : Int32)), (.int p1)])) _
                refine XS.icmpNo X0.here hx rfl (hb hby d_prog_62_method_3_37) rfl (tlt s37).2.2.2 ?_
                show Steps p.tables e below (s₁.setTop (mkF m 40 #[.val (.int p1), .val (.int (0 : Int32))] [])) _
                refine XS.iloadN X0.here hx rfl (hb hby d_prog_62_method_3_40) rfl ?_
                show Steps p.tables e below (s₁.setTop (mkF m 41 #[.val (.int p1), .val (.int (0 : Int32))] [(.int p1)])) _
                refine XS.bipush X0.here hx rfl (hb hby d_prog_62_method_3_41) ?_
                show Steps p.tables e below (s₁.setTop (mkF m 43 #[.val (.int p1), .val (.int (0 : Int32))] [(.int (43 : Int32)), (.int p1)])) _
                exact k
              by_cases s43 : p1 = (43 : Int32)
              · refine own_go (B := s₁.setTop (mkF m 63 #[.val (.int p1), .val (.int (0 : Int32))] [(.int (1 : Int32))])) (fun t k => ?_) ?_
                · show Steps p.tables e below (s₁.setTop (mkF m 43 #[.val (.int p1), .val (.int (0 : Int32))] [(.int (43 : Int32)), (.int p1)])) _
                  refine XS.icmpYes X0.here hx rfl (pc0 := 43) (pc' := 58) rfl (hb hby d_prog_62_method_3_43) rfl (teq s43).1 (by decide) (by decide) ?_
                  show Steps p.tables e below (s₁.setTop (mkF m 58 #[.val (.int p1), .val (.int (0 : Int32))] [])) _
                  refine XS.iconst X0.here hx rfl (hb hby d_prog_62_method_3_58) ?_
                  show Steps p.tables e below (s₁.setTop (mkF m 59 #[.val (.int p1), .val (.int (0 : Int32))] [(.int (1 : Int32))])) _
                  refine XS.goto X0.here hx rfl (pc0 := 59) (pc' := 63) rfl (hb hby d_prog_62_method_3_59) (by decide) (by decide) ?_
                  show Steps p.tables e below (s₁.setTop (mkF m 63 #[.val (.int p1), .val (.int (0 : Int32))] [(.int (1 : Int32))])) _
                  exact k
                obtain ⟨fs, hr, hrun, hended, hW, hsame⟩ := X0.leave (v := some (.int (1 : Int32))) (fun h => by rw [Bd.returns] at h; cases h)
                refine ⟨_, _, retN X0 hx (t := .boolean) Bd.returns (by simp) (hb hby d_prog_62_method_3_63) hr, hfin _ _ ⟨hrun, hended, _, _, rfl, ?_, ⟨_, rfl⟩, hW, hsame.mono (by decide) (by decide)⟩⟩
                show QSc0 Z p1 h0 n0 _ s₁.heap _
                exact ⟨(1 : Int32), rfl, N, e0, (fun _ => rfl), (fun qq_ => absurd (show _ from (Or.inr (Or.inr (Or.inl s43)))) qq_)⟩
              · refine own_go (B := s₁.setTop (mkF m 49 #[.val (.int p1), .val (.int (0 : Int32))] [(.int (45 : Int32)), (.int p1)])) (fun t k => ?_) ?_
                · show Steps p.tables e below (s₁.setTop (mkF m 43 #[.val (.int p1), .val (.int (0 : Int32))] [(.int (43 : Int32)), (.int p1)])) _
                  refine XS.icmpNo X0.here hx rfl (hb hby d_prog_62_method_3_43) rfl (feq s43).1 ?_
                  show Steps p.tables e below (s₁.setTop (mkF m 46 #[.val (.int p1), .val (.int (0 : Int32))] [])) _
                  refine XS.iloadN X0.here hx rfl (hb hby d_prog_62_method_3_46) rfl ?_
                  show Steps p.tables e below (s₁.setTop (mkF m 47 #[.val (.int p1), .val (.int (0 : Int32))] [(.int p1)])) _
                  refine XS.bipush X0.here hx rfl (hb hby d_prog_62_method_3_47) ?_
                  show Steps p.tables e below (s₁.setTop (mkF m 49 #[.val (.int p1), .val (.int (0 : Int32))] [(.int (45 : Int32)), (.int p1)])) _
                  exact k
                by_cases s49 : p1 = (45 : Int32)
                · refine own_go (B := s₁.setTop (mkF m 63 #[.val (.int p1), .val (.int (0 : Int32))] [(.int (1 : Int32))])) (fun t k => ?_) ?_
                  · show Steps p.tables e below (s₁.setTop (mkF m 49 #[.val (.int p1), .val (.int (0 : Int32))] [(.int (45 : Int32)), (.int p1)])) _
                    refine XS.icmpYes X0.here hx rfl (pc0 := 49) (pc' := 58) rfl (hb hby d_prog_62_method_3_49) rfl (teq s49).1 (by decide) (by decide) ?_
                    show Steps p.tables e below (s₁.setTop (mkF m 58 #[.val (.int p1), .val (.int (0 : Int32))] [])) _
                    refine XS.iconst X0.here hx rfl (hb hby d_prog_62_method_3_58) ?_
                    show Steps p.tables e below (s₁.setTop (mkF m 59 #[.val (.int p1), .val (.int (0 : Int32))] [(.int (1 : Int32))])) _
                    refine XS.goto X0.here hx rfl (pc0 := 59) (pc' := 63) rfl (hb hby d_prog_62_method_3_59) (by decide) (by decide) ?_
                    show Steps p.tables e below (s₁.setTop (mkF m 63 #[.val (.int p1), .val (.int (0 : Int32))] [(.int (1 : Int32))])) _
                    exact k
                  obtain ⟨fs, hr, hrun, hended, hW, hsame⟩ := X0.leave (v := some (.int (1 : Int32))) (fun h => by rw [Bd.returns] at h; cases h)
                  refine ⟨_, _, retN X0 hx (t := .boolean) Bd.returns (by simp) (hb hby d_prog_62_method_3_63) hr, hfin _ _ ⟨hrun, hended, _, _, rfl, ?_, ⟨_, rfl⟩, hW, hsame.mono (by decide) (by decide)⟩⟩
                  show QSc0 Z p1 h0 n0 _ s₁.heap _
                  exact ⟨(1 : Int32), rfl, N, e0, (fun _ => rfl), (fun qq_ => absurd (show _ from (Or.inr (Or.inr (Or.inr (Or.inl s49))))) qq_)⟩
                · refine own_go (B := s₁.setTop (mkF m 55 #[.val (.int p1), .val (.int (0 : Int32))] [(.int (46 : Int32)), (.int p1)])) (fun t k => ?_) ?_
                  · show Steps p.tables e below (s₁.setTop (mkF m 49 #[.val (.int p1), .val (.int (0 : Int32))] [(.int (45 : Int32)), (.int p1)])) _
                    refine XS.icmpNo X0.here hx rfl (hb hby d_prog_62_method_3_49) rfl (feq s49).1 ?_
                    show Steps p.tables e below (s₁.setTop (mkF m 52 #[.val (.int p1), .val (.int (0 : Int32))] [])) _
                    refine XS.iloadN X0.here hx rfl (hb hby d_prog_62_method_3_52) rfl ?_
                    show Steps p.tables e below (s₁.setTop (mkF m 53 #[.val (.int p1), .val (.int (0 : Int32))] [(.int p1)])) _
                    refine XS.bipush X0.here hx rfl (hb hby d_prog_62_method_3_53) ?_
                    show Steps p.tables e below (s₁.setTop (mkF m 55 #[.val (.int p1), .val (.int (0 : Int32))] [(.int (46 : Int32)), (.int p1)])) _
                    exact k
                  by_cases s55 : p1 = (46 : Int32)
                  · refine own_go (B := s₁.setTop (mkF m 63 #[.val (.int p1), .val (.int (0 : Int32))] [(.int (1 : Int32))])) (fun t k => ?_) ?_
                    · show Steps p.tables e below (s₁.setTop (mkF m 55 #[.val (.int p1), .val (.int (0 : Int32))] [(.int (46 : Int32)), (.int p1)])) _
                      refine XS.icmpNo X0.here hx rfl (hb hby d_prog_62_method_3_55) rfl (teq s55).2 ?_
                      show Steps p.tables e below (s₁.setTop (mkF m 58 #[.val (.int p1), .val (.int (0 : Int32))] [])) _
                      refine XS.iconst X0.here hx rfl (hb hby d_prog_62_method_3_58) ?_
                      show Steps p.tables e below (s₁.setTop (mkF m 59 #[.val (.int p1), .val (.int (0 : Int32))] [(.int (1 : Int32))])) _
                      refine XS.goto X0.here hx rfl (pc0 := 59) (pc' := 63) rfl (hb hby d_prog_62_method_3_59) (by decide) (by decide) ?_
                      show Steps p.tables e below (s₁.setTop (mkF m 63 #[.val (.int p1), .val (.int (0 : Int32))] [(.int (1 : Int32))])) _
                      exact k
                    obtain ⟨fs, hr, hrun, hended, hW, hsame⟩ := X0.leave (v := some (.int (1 : Int32))) (fun h => by rw [Bd.returns] at h; cases h)
                    refine ⟨_, _, retN X0 hx (t := .boolean) Bd.returns (by simp) (hb hby d_prog_62_method_3_63) hr, hfin _ _ ⟨hrun, hended, _, _, rfl, ?_, ⟨_, rfl⟩, hW, hsame.mono (by decide) (by decide)⟩⟩
                    show QSc0 Z p1 h0 n0 _ s₁.heap _
                    exact ⟨(1 : Int32), rfl, N, e0, (fun _ => rfl), (fun qq_ => absurd (show _ from (Or.inr (Or.inr (Or.inr (Or.inr s55))))) qq_)⟩
                  · refine own_go (B := s₁.setTop (mkF m 63 #[.val (.int p1), .val (.int (0 : Int32))] [(.int (0 : Int32))])) (fun t k => ?_) ?_
                    · show Steps p.tables e below (s₁.setTop (mkF m 55 #[.val (.int p1), .val (.int (0 : Int32))] [(.int (46 : Int32)), (.int p1)])) _
                      refine XS.icmpYes X0.here hx rfl (pc0 := 55) (pc' := 62) rfl (hb hby d_prog_62_method_3_55) rfl (feq s55).2 (by decide) (by decide) ?_
                      show Steps p.tables e below (s₁.setTop (mkF m 62 #[.val (.int p1), .val (.int (0 : Int32))] [])) _
                      refine XS.iconst X0.here hx rfl (hb hby d_prog_62_method_3_62) ?_
                      show Steps p.tables e below (s₁.setTop (mkF m 63 #[.val (.int p1), .val (.int (0 : Int32))] [(.int (0 : Int32))])) _
                      exact k
                    obtain ⟨fs, hr, hrun, hended, hW, hsame⟩ := X0.leave (v := some (.int (0 : Int32))) (fun h => by rw [Bd.returns] at h; cases h)
                    refine ⟨_, _, retN X0 hx (t := .boolean) Bd.returns (by simp) (hb hby d_prog_62_method_3_63) hr, hfin _ _ ⟨hrun, hended, _, _, rfl, ?_, ⟨_, rfl⟩, hW, hsame.mono (by decide) (by decide)⟩⟩
                    show QSc0 Z p1 h0 n0 _ s₁.heap _
                    exact ⟨(0 : Int32), rfl, N, e0, (fun qq_ => absurd qq_ (fun z0 => z0.elim (fun z1 => z1.elim (fun z2 => (fun z3 => z3 s9) z2.2) (fun z2 => (fun z3 => z3 s21) z2.2)) (fun z1 => z1.elim (fun z2 => (fun z3 => z3 s37) z2.2) (fun z2 => z2.elim s43 (fun z3 => z3.elim s49 s55))))), (fun _ => rfl)⟩
            · refine own_go (B := s₁.setTop (mkF m 63 #[.val (.int p1), .val (.int (0 : Int32))] [(.int (1 : Int32))])) (fun t k => ?_) ?_
              · show Steps p.tables e below (s₁.setTop (mkF m 37 #[.val (.int p1), .val (.int (0 : Int32))] [(.int (57 : Int32)), (.int p1)])) _
                refine XS.icmpYes X0.here hx rfl (pc0 := 37) (pc' := 58) rfl (hb hby d_prog_62_method_3_37) rfl (flt s37).2.2.2 (by decide) (by decide) ?_
                show Steps p.tables e below (s₁.setTop (mkF m 58 #[.val (.int p1), .val (.int (0 : Int32))] [])) _
                refine XS.iconst X0.here hx rfl (hb hby d_prog_62_method_3_58) ?_
                show Steps p.tables e below (s₁.setTop (mkF m 59 #[.val (.int p1), .val (.int (0 : Int32))] [(.int (1 : Int32))])) _
                refine XS.goto X0.here hx rfl (pc0 := 59) (pc' := 63) rfl (hb hby d_prog_62_method_3_59) (by decide) (by decide) ?_
                show Steps p.tables e below (s₁.setTop (mkF m 63 #[.val (.int p1), .val (.int (0 : Int32))] [(.int (1 : Int32))])) _
                exact k
              obtain ⟨fs, hr, hrun, hended, hW, hsame⟩ := X0.leave (v := some (.int (1 : Int32))) (fun h => by rw [Bd.returns] at h; cases h)
              refine ⟨_, _, retN X0 hx (t := .boolean) Bd.returns (by simp) (hb hby d_prog_62_method_3_63) hr, hfin _ _ ⟨hrun, hended, _, _, rfl, ?_, ⟨_, rfl⟩, hW, hsame.mono (by decide) (by decide)⟩⟩
              show QSc0 Z p1 h0 n0 _ s₁.heap _
              exact ⟨(1 : Int32), rfl, N, e0, (fun _ => rfl), (fun qq_ => absurd (show _ from (Or.inr (Or.inl ⟨s31, s37⟩))) qq_)⟩
        · refine own_go (B := s₁.setTop (mkF m 63 #[.val (.int p1), .val (.int (0 : Int32))] [(.int (1 : Int32))])) (fun t k => ?_) ?_
          · show Steps p.tables e below (s₁.setTop (mkF m 21 #[.val (.int p1), .val (.int (0 : Int32))] [(.int (122 : Int32)), (.int p1)])) _
            refine XS.icmpYes X0.here hx rfl (pc0 := 21) (pc' := 58) rfl (hb hby d_prog_62_method_3_21) rfl (flt s21).2.2.2 (by decide) (by decide) ?_
            show Steps p.tables e below (s₁.setTop (mkF m 58 #[.val (.int p1), .val (.int (0 : Int32))] [])) _
            refine XS.iconst X0.here hx rfl (hb hby d_prog_62_method_3_58) ?_
            show Steps p.tables e below (s₁.setTop (mkF m 59 #[.val (.int p1), .val (.int (0 : Int32))] [(.int (1 : Int32))])) _
            refine XS.goto X0.here hx rfl (pc0 := 59) (pc' := 63) rfl (hb hby d_prog_62_method_3_59) (by decide) (by decide) ?_
            show Steps p.tables e below (s₁.setTop (mkF m 63 #[.val (.int p1), .val (.int (0 : Int32))] [(.int (1 : Int32))])) _
            exact k
          obtain ⟨fs, hr, hrun, hended, hW, hsame⟩ := X0.leave (v := some (.int (1 : Int32))) (fun h => by rw [Bd.returns] at h; cases h)
          refine ⟨_, _, retN X0 hx (t := .boolean) Bd.returns (by simp) (hb hby d_prog_62_method_3_63) hr, hfin _ _ ⟨hrun, hended, _, _, rfl, ?_, ⟨_, rfl⟩, hW, hsame.mono (by decide) (by decide)⟩⟩
          show QSc0 Z p1 h0 n0 _ s₁.heap _
          exact ⟨(1 : Int32), rfl, N, e0, (fun _ => rfl), (fun qq_ => absurd (show _ from (Or.inl (Or.inr ⟨s15, s21⟩))) qq_)⟩
    · refine own_go (B := s₁.setTop (mkF m 63 #[.val (.int p1), .val (.int (0 : Int32))] [(.int (1 : Int32))])) (fun t k => ?_) ?_
      · show Steps p.tables e below (s₁.setTop (mkF m 9 #[.val (.int p1), .val (.int (0 : Int32))] [(.int (90 : Int32)), (.int p1)])) _
        refine XS.icmpYes X0.here hx rfl (pc0 := 9) (pc' := 58) rfl (hb hby d_prog_62_method_3_9) rfl (flt s9).2.2.2 (by decide) (by decide) ?_
        show Steps p.tables e below (s₁.setTop (mkF m 58 #[.val (.int p1), .val (.int (0 : Int32))] [])) _
        refine XS.iconst X0.here hx rfl (hb hby d_prog_62_method_3_58) ?_
        show Steps p.tables e below (s₁.setTop (mkF m 59 #[.val (.int p1), .val (.int (0 : Int32))] [(.int (1 : Int32))])) _
        refine XS.goto X0.here hx rfl (pc0 := 59) (pc' := 63) rfl (hb hby d_prog_62_method_3_59) (by decide) (by decide) ?_
        show Steps p.tables e below (s₁.setTop (mkF m 63 #[.val (.int p1), .val (.int (0 : Int32))] [(.int (1 : Int32))])) _
        exact k
      obtain ⟨fs, hr, hrun, hended, hW, hsame⟩ := X0.leave (v := some (.int (1 : Int32))) (fun h => by rw [Bd.returns] at h; cases h)
      refine ⟨_, _, retN X0 hx (t := .boolean) Bd.returns (by simp) (hb hby d_prog_62_method_3_63) hr, hfin _ _ ⟨hrun, hended, _, _, rfl, ?_, ⟨_, rfl⟩, hW, hsame.mono (by decide) (by decide)⟩⟩
      show QSc0 Z p1 h0 n0 _ s₁.heap _
      exact ⟨(1 : Int32), rfl, N, e0, (fun _ => rfl), (fun qq_ => absurd (show _ from (Or.inl (Or.inl ⟨s3, s9⟩))) qq_)⟩
def QLa0 (Z : State) (a : Addr) (kc : ClassId) (c0 : Int32) (c1 : Int32) (c2 : Int32) (c3 : Int32) (c4 : Int32) (p2 : Int32) (h0 : Heap) (n0 : Nat) (v : Option Value) (h : Heap) (L : List Loc) : Prop := ∃ b : Int32, v = some (.int b) ∧ Fr n0 L ∧ h = h0 ∧ (((0 : Int32) < p2 ∧ own_let c0) → b = (1 : Int32)) ∧ (¬ ((0 : Int32) < p2 ∧ own_let c0) → b = (0 : Int32))
theorem ef_La0 (m : MethodId) (a : Addr) (p2 : Int32) : entryFrame m #[(.ref a), (.int p2), (.int (0 : Int32))] 3 = mkF m 0 #[.val (.ref a), .val (.int p2), .val (.int (0 : Int32))] [] := by first | (simp [entryFrame, mkF, argsToLocals, Value.category]; done) | rfl | (rfl)
set_option maxRecDepth 65536 in
set_option maxHeartbeats 40000000 in
theorem rmLa0 (l : Launch) (Z : State) (a0 : Array Value) (hw : ∀ d ∈ tables_1, d.before a0 Z = true) (ws : List Jvm.Cond) (a : Addr) (kc : ClassId) (c0 : Int32) (c1 : Int32) (c2 : Int32) (c3 : Int32) (c4 : Int32) (p2 : Int32) (h0 : Heap) (n0 : Nat) (O : Old Z n0 h0) (V : Arv Z h0 a kc .char (5 : Int32) [(.int c0), (.int c1), (.int c2), (.int c3), (.int c4)] (.int (0 : Int32))) :
    MetFree l (⟨"org/bindery/IriIsAbsolutePinLaw", "letterAt", "([CII)Z"⟩ : MethodName) (head1 (Jvm.Cond.code (⟨"org/bindery/IriIsAbsolutePinLaw", "letterAt", "([CII)Z"⟩ : MethodName) method_6_code 3 (some .boolean) :: ws) ({ frames := 1, cells := 0, slots := 0, locals := 12 } : Room)) (fun as_ U => as_ = #[(.ref a), (.int p2), (.int (0 : Int32))] ∧ Z.Warmed39 U.vm ∧ U.heap = h0) (fun _ _ _ _ _ => True) (fun _ U oo_ U' => ∃ vv_ LL_, oo_ = .returned vv_ ∧ QLa0 Z a kc c0 c1 c2 c3 c4 p2 h0 n0 vv_ U'.heap LL_ ∧ FrameEnd U oo_ U' LL_ ({ frames := 1, cells := 0, slots := 0, locals := 12 } : Room).cells ({ frames := 1, cells := 0, slots := 0, locals := 12 } : Room).slots) := by
  refine MetFree.of_bodySF (plainFor_of_name pn_1) hisR ?_
  intro p e s m args below meth c s₁ Bd hml0 hP hK
  obtain ⟨rfl, hZ, hh⟩ := hP
  have hx := Bd.exec
  have hby := Bd.bytes
  have hml : c.maxLocals = 3 := hml0
  have hown : s.vm.findClass "org/bindery/IriIsAbsolutePinLaw" = some m.cls := findClass_of_methodNamed Bd.named
  have hnm := (name_of_methodNamed Bd.named Bd.method).1
  have X0 : Stand p l e ({ frames := 1, cells := 0, slots := 0, locals := 12 } : Room) s m #[(.ref a), (.int p2), (.int (0 : Int32))] below meth c s₁ [] 0 0 := Stand.of_body Bd
  have e0 : s₁.heap = h0 := by rw [← hh, Bd.state]; rfl
  have N := Fr.nil n0
  have K : Keep h0 h0 [] := Keep.refl h0 _
  refine own_go (B := s₁.setTop (mkF m 0 #[.val (.ref a), .val (.int p2), .val (.int (0 : Int32))] [])) (fun t k => castTop (ef_La0 m a p2) k) ?_
  refine own_abs (fun P hfin => ?_)
  refine own_go (B := s₁.setTop (mkF m 2 #[.val (.ref a), .val (.int p2), .val (.int (0 : Int32))] [(.int p2), (.int (0 : Int32))])) (fun t k => ?_) ?_
  · show Steps p.tables e below (s₁.setTop (mkF m 0 #[.val (.ref a), .val (.int p2), .val (.int (0 : Int32))] [])) _
    refine XS.iloadN X0.here hx rfl (hb hby d_method_6_0) rfl ?_
    show Steps p.tables e below (s₁.setTop (mkF m 1 #[.val (.ref a), .val (.int p2), .val (.int (0 : Int32))] [(.int (0 : Int32))])) _
    refine XS.iloadN X0.here hx rfl (hb hby d_method_6_1) rfl ?_
    show Steps p.tables e below (s₁.setTop (mkF m 2 #[.val (.ref a), .val (.int p2), .val (.int (0 : Int32))] [(.int p2), (.int (0 : Int32))])) _
    exact k
  by_cases i2 : (0 : Int32) < p2
  · refine own_go (B := s₁.setTop (mkF m 7 #[.val (.ref a), .val (.int p2), .val (.int (0 : Int32))] [(.int (0 : Int32)), (.ref a)])) (fun t k => ?_) ?_
    · show Steps p.tables e below (s₁.setTop (mkF m 2 #[.val (.ref a), .val (.int p2), .val (.int (0 : Int32))] [(.int p2), (.int (0 : Int32))])) _
      refine XS.icmpNo X0.here hx rfl (hb hby d_method_6_2) rfl (tlt i2).2.1 ?_
      show Steps p.tables e below (s₁.setTop (mkF m 5 #[.val (.ref a), .val (.int p2), .val (.int (0 : Int32))] [])) _
      refine XS.aloadN X0.here hx rfl (hb hby d_method_6_5) rfl rfl ?_
      show Steps p.tables e below (s₁.setTop (mkF m 6 #[.val (.ref a), .val (.int p2), .val (.int (0 : Int32))] [(.ref a)])) _
      refine XS.iloadN X0.here hx rfl (hb hby d_method_6_6) rfl ?_
      show Steps p.tables e below (s₁.setTop (mkF m 7 #[.val (.ref a), .val (.int p2), .val (.int (0 : Int32))] [(.int (0 : Int32)), (.ref a)])) _
      exact k
    obtain ⟨cl1, Ar1, q1, Sz1, Nn1, Hs1, Gt1⟩ := V
    have hin1 : ¬ ((0 : Int32) < 0 ∨ cl1.slots.size ≤ ((0 : Int32)).toNatClampNeg) := inb_of Sz1 ⟨by decide, by decide⟩
    have hat1 : cl1.slots[((0 : Int32)).toNatClampNeg]? = some (.int c0) := Hs1.at hin1 rfl
    have st1 := X0.caload hx (j := (0 : Int32)) (v := (.int c0)) (by rw [e0]; exact Ar1.1) (State.isArrayOf_alike hZ.alike Ar1.2.1) Ar1.2.2 hin1 hat1 (g := (mkF m 7 #[.val (.ref a), .val (.int p2), .val (.int (0 : Int32))] [(.int (0 : Int32)), (.ref a)])) rfl rfl (hb hby d_method_6_7)
    have V1 : Arv Z h0 a kc .char (5 : Int32) [(.int c0), (.int c1), (.int c2), (.int c3), (.int c4)] (.int (0 : Int32)) := ⟨cl1, Ar1, q1, Sz1, Nn1, Hs1, Gt1⟩
    refine own_go (B := s₁.setTop (mkF m 8 #[.val (.ref a), .val (.int p2), .val (.int (0 : Int32))] [(.int c0)])) st1 ?_
    -- pc 8: org/bindery/IriIsAbsolutePinLaw.letter
    obtain ⟨_, _, ⟨T2, L2, k2, n2⟩, -, X2, ⟨Lc2, hQ2, l2, y2, z2⟩, st2⟩ := Jvm.LawKit.callS X0 hx (y := (⟨"org/bindery/IriIsAbsolutePinLaw", "letter", "(C)Z"⟩ : MethodName)) hown (mvT hZ (hw _ (List.mem_of_getElem? (i := 55) rfl))) (mvT hZ (hw _ (List.mem_of_getElem? (i := 56) rfl))) (mvT hZ (hw _ (List.mem_of_getElem? (i := 4) rfl))) (mvT hZ (hw _ (List.mem_of_getElem? (i := 57) rfl))) (by decide) (backOf (W := 0) (rmLet l Z a0 hw [] c0 h0 n0 O ) hZ (hw _ (List.mem_of_getElem? (i := 57) rfl)) (hw _ (List.mem_of_getElem? (i := 4) rfl)) (by decide) (by decide)) (g := (mkF m 8 #[.val (.ref a), .val (.int p2), .val (.int (0 : Int32))] [(.int c0)])) rfl (by rw [hml]; rfl) (argsL := [(.int c0)]) (rest := []) (lenOf pd_1 rfl) rfl (by show 2 * 0 + _ ≤ _; exact Nat.le_of_eq rfl) (hb hby d_method_6_8) (fun _ hWm => ⟨rfl, e0, (by decide : 0 + 0 ≤ _), (by decide : 0 + 0 ≤ _)⟩)
    dsimp only [Pt.U, Pt.locs, Pt.cells, Pt.slots] at X2 l2 y2 z2 st2 hQ2
    subst l2 y2 z2
    obtain ⟨b2, rfl, Nq2, Kq2, cq2_0, cq2_1⟩ := hQ2
    replace N := Fr.app N Nq2
    refine own_go (B := T2.setTop (mkF m 11 #[.val (.ref a), .val (.int p2), .val (.int (0 : Int32))] [(.int b2)])) st2 ?_
    by_cases q : own_let c0
    · refine own_go (B := T2.setTop (mkF m 19 #[.val (.ref a), .val (.int p2), .val (.int (0 : Int32))] [(.int (1 : Int32))])) (fun t k => ?_) ?_
      · show Steps p.tables e below (T2.setTop (mkF m 11 #[.val (.ref a), .val (.int p2), .val (.int (0 : Int32))] [(.int b2)])) _
        refine XS.ifNo X2.here hx rfl (hb hby d_method_6_11) rfl ((if0 _ _).trans (feq (by rw [cq2_0 q]; decide)).1) ?_
        show Steps p.tables e below (T2.setTop (mkF m 14 #[.val (.ref a), .val (.int p2), .val (.int (0 : Int32))] [])) _
        refine XS.iconst X2.here hx rfl (hb hby d_method_6_14) ?_
        show Steps p.tables e below (T2.setTop (mkF m 15 #[.val (.ref a), .val (.int p2), .val (.int (0 : Int32))] [(.int (1 : Int32))])) _
        refine XS.goto X2.here hx rfl (pc0 := 15) (pc' := 19) rfl (hb hby d_method_6_15) (by decide) (by decide) ?_
        show Steps p.tables e below (T2.setTop (mkF m 19 #[.val (.ref a), .val (.int p2), .val (.int (0 : Int32))] [(.int (1 : Int32))])) _
        exact k
      obtain ⟨fs, hr, hrun, hended, hW, hsame⟩ := X2.leave (v := some (.int (1 : Int32))) (fun h => by rw [Bd.returns] at h; cases h)
      refine ⟨_, _, retN X2 hx (t := .boolean) Bd.returns (by simp) (hb hby d_method_6_19) hr, hfin _ _ ⟨hrun, hended, _, _, rfl, ?_, ⟨_, rfl⟩, hW, hsame.mono (by decide) (by decide)⟩⟩
      show QLa0 Z a kc c0 c1 c2 c3 c4 p2 h0 n0 _ T2.heap _
      exact ⟨(1 : Int32), rfl, N, Kq2, (fun _ => rfl), (fun qq_ => absurd (show _ from ⟨i2, q⟩) qq_)⟩
    · refine own_go (B := T2.setTop (mkF m 19 #[.val (.ref a), .val (.int p2), .val (.int (0 : Int32))] [(.int (0 : Int32))])) (fun t k => ?_) ?_
      · show Steps p.tables e below (T2.setTop (mkF m 11 #[.val (.ref a), .val (.int p2), .val (.int (0 : Int32))] [(.int b2)])) _
        refine XS.ifYes X2.here hx rfl (pc0 := 11) (pc' := 18) rfl (hb hby d_method_6_11) rfl ((if0 _ _).trans (teq (cq2_1 q)).1) (by decide) (by decide) ?_
        show Steps p.tables e below (T2.setTop (mkF m 18 #[.val (.ref a), .val (.int p2), .val (.int (0 : Int32))] [])) _
        refine XS.iconst X2.here hx rfl (hb hby d_method_6_18) ?_
        show Steps p.tables e below (T2.setTop (mkF m 19 #[.val (.ref a), .val (.int p2), .val (.int (0 : Int32))] [(.int (0 : Int32))])) _
        exact k
      obtain ⟨fs, hr, hrun, hended, hW, hsame⟩ := X2.leave (v := some (.int (0 : Int32))) (fun h => by rw [Bd.returns] at h; cases h)
      refine ⟨_, _, retN X2 hx (t := .boolean) Bd.returns (by simp) (hb hby d_method_6_19) hr, hfin _ _ ⟨hrun, hended, _, _, rfl, ?_, ⟨_, rfl⟩, hW, hsame.mono (by decide) (by decide)⟩⟩
      show QLa0 Z a kc c0 c1 c2 c3 c4 p2 h0 n0 _ T2.heap _
      exact ⟨(0 : Int32), rfl, N, Kq2, (fun qq_ => absurd qq_ (fun z0 => q z0.2)), (fun _ => rfl)⟩
  · refine own_go (B := s₁.setTop (mkF m 19 #[.val (.ref a), .val (.int p2), .val (.int (0 : Int32))] [(.int (0 : Int32))])) (fun t k => ?_) ?_
    · show Steps p.tables e below (s₁.setTop (mkF m 2 #[.val (.ref a), .val (.int p2), .val (.int (0 : Int32))] [(.int p2), (.int (0 : Int32))])) _
      refine XS.icmpYes X0.here hx rfl (pc0 := 2) (pc' := 18) rfl (hb hby d_method_6_2) rfl (flt i2).2.1 (by decide) (by decide) ?_
      show Steps p.tables e below (s₁.setTop (mkF m 18 #[.val (.ref a), .val (.int p2), .val (.int (0 : Int32))] [])) _
      refine XS.iconst X0.here hx rfl (hb hby d_method_6_18) ?_
      show Steps p.tables e below (s₁.setTop (mkF m 19 #[.val (.ref a), .val (.int p2), .val (.int (0 : Int32))] [(.int (0 : Int32))])) _
      exact k
    obtain ⟨fs, hr, hrun, hended, hW, hsame⟩ := X0.leave (v := some (.int (0 : Int32))) (fun h => by rw [Bd.returns] at h; cases h)
    refine ⟨_, _, retN X0 hx (t := .boolean) Bd.returns (by simp) (hb hby d_method_6_19) hr, hfin _ _ ⟨hrun, hended, _, _, rfl, ?_, ⟨_, rfl⟩, hW, hsame.mono (by decide) (by decide)⟩⟩
    show QLa0 Z a kc c0 c1 c2 c3 c4 p2 h0 n0 _ s₁.heap _
    exact ⟨(0 : Int32), rfl, N, e0, (fun qq_ => absurd qq_ (fun z0 => i2 z0.1)), (fun _ => rfl)⟩
def QLt1 (Z : State) (a : Addr) (kc : ClassId) (c0 : Int32) (c1 : Int32) (c2 : Int32) (c3 : Int32) (c4 : Int32) (p2 : Int32) (h0 : Heap) (n0 : Nat) (v : Option Value) (h : Heap) (L : List Loc) : Prop := ∃ b : Int32, v = some (.int b) ∧ Fr n0 L ∧ h = h0 ∧ (((1 : Int32) < p2 ∧ own_lat c1) → b = (1 : Int32)) ∧ (¬ ((1 : Int32) < p2 ∧ own_lat c1) → b = (0 : Int32))
theorem ef_Lt1 (m : MethodId) (a : Addr) (p2 : Int32) : entryFrame m #[(.ref a), (.int p2), (.int (1 : Int32))] 3 = mkF m 0 #[.val (.ref a), .val (.int p2), .val (.int (1 : Int32))] [] := by first | (simp [entryFrame, mkF, argsToLocals, Value.category]; done) | rfl | (rfl)
set_option maxRecDepth 65536 in
set_option maxHeartbeats 40000000 in
theorem rmLt1 (l : Launch) (Z : State) (a0 : Array Value) (hw : ∀ d ∈ tables_1, d.before a0 Z = true) (ws : List Jvm.Cond) (a : Addr) (kc : ClassId) (c0 : Int32) (c1 : Int32) (c2 : Int32) (c3 : Int32) (c4 : Int32) (p2 : Int32) (h0 : Heap) (n0 : Nat) (O : Old Z n0 h0) (V : Arv Z h0 a kc .char (5 : Int32) [(.int c0), (.int c1), (.int c2), (.int c3), (.int c4)] (.int (0 : Int32))) :
    MetFree l (⟨"org/bindery/IriIsAbsolutePinLaw", "laterAt", "([CII)Z"⟩ : MethodName) (head1 (Jvm.Cond.code (⟨"org/bindery/IriIsAbsolutePinLaw", "laterAt", "([CII)Z"⟩ : MethodName) method_7_code 3 (some .boolean) :: ws) ({ frames := 2, cells := 0, slots := 0, locals := 24 } : Room)) (fun as_ U => as_ = #[(.ref a), (.int p2), (.int (1 : Int32))] ∧ Z.Warmed39 U.vm ∧ U.heap = h0) (fun _ _ _ _ _ => True) (fun _ U oo_ U' => ∃ vv_ LL_, oo_ = .returned vv_ ∧ QLt1 Z a kc c0 c1 c2 c3 c4 p2 h0 n0 vv_ U'.heap LL_ ∧ FrameEnd U oo_ U' LL_ ({ frames := 2, cells := 0, slots := 0, locals := 24 } : Room).cells ({ frames := 2, cells := 0, slots := 0, locals := 24 } : Room).slots) := by
  refine MetFree.of_bodySF (plainFor_of_name pn_1) hisR ?_
  intro p e s m args below meth c s₁ Bd hml0 hP hK
  obtain ⟨rfl, hZ, hh⟩ := hP
  have hx := Bd.exec
  have hby := Bd.bytes
  have hml : c.maxLocals = 3 := hml0
  have hown : s.vm.findClass "org/bindery/IriIsAbsolutePinLaw" = some m.cls := findClass_of_methodNamed Bd.named
  have hnm := (name_of_methodNamed Bd.named Bd.method).1
  have X0 : Stand p l e ({ frames := 2, cells := 0, slots := 0, locals := 24 } : Room) s m #[(.ref a), (.int p2), (.int (1 : Int32))] below meth c s₁ [] 0 0 := Stand.of_body Bd
  have e0 : s₁.heap = h0 := by rw [← hh, Bd.state]; rfl
  have N := Fr.nil n0
  have K : Keep h0 h0 [] := Keep.refl h0 _
  refine own_go (B := s₁.setTop (mkF m 0 #[.val (.ref a), .val (.int p2), .val (.int (1 : Int32))] [])) (fun t k => castTop (ef_Lt1 m a p2) k) ?_
  refine own_abs (fun P hfin => ?_)
  refine own_go (B := s₁.setTop (mkF m 2 #[.val (.ref a), .val (.int p2), .val (.int (1 : Int32))] [(.int p2), (.int (1 : Int32))])) (fun t k => ?_) ?_
  · show Steps p.tables e below (s₁.setTop (mkF m 0 #[.val (.ref a), .val (.int p2), .val (.int (1 : Int32))] [])) _
    refine XS.iloadN X0.here hx rfl (hb hby d_method_7_0) rfl ?_
    show Steps p.tables e below (s₁.setTop (mkF m 1 #[.val (.ref a), .val (.int p2), .val (.int (1 : Int32))] [(.int (1 : Int32))])) _
    refine XS.iloadN X0.here hx rfl (hb hby d_method_7_1) rfl ?_
    show Steps p.tables e below (s₁.setTop (mkF m 2 #[.val (.ref a), .val (.int p2), .val (.int (1 : Int32))] [(.int p2), (.int (1 : Int32))])) _
    exact k
  by_cases i2 : (1 : Int32) < p2
  · refine own_go (B := s₁.setTop (mkF m 7 #[.val (.ref a), .val (.int p2), .val (.int (1 : Int32))] [(.int (1 : Int32)), (.ref a)])) (fun t k => ?_) ?_
    · show Steps p.tables e below (s₁.setTop (mkF m 2 #[.val (.ref a), .val (.int p2), .val (.int (1 : Int32))] [(.int p2), (.int (1 : Int32))])) _
      refine XS.icmpNo X0.here hx rfl (hb hby d_method_7_2) rfl (tlt i2).2.1 ?_
      show Steps p.tables e below (s₁.setTop (mkF m 5 #[.val (.ref a), .val (.int p2), .val (.int (1 : Int32))] [])) _
      refine XS.aloadN X0.here hx rfl (hb hby d_method_7_5) rfl rfl ?_
      show Steps p.tables e below (s₁.setTop (mkF m 6 #[.val (.ref a), .val (.int p2), .val (.int (1 : Int32))] [(.ref a)])) _
      refine XS.iloadN X0.here hx rfl (hb hby d_method_7_6) rfl ?_
      show Steps p.tables e below (s₁.setTop (mkF m 7 #[.val (.ref a), .val (.int p2), .val (.int (1 : Int32))] [(.int (1 : Int32)), (.ref a)])) _
      exact k
    obtain ⟨cl1, Ar1, q1, Sz1, Nn1, Hs1, Gt1⟩ := V
    have hin1 : ¬ ((1 : Int32) < 0 ∨ cl1.slots.size ≤ ((1 : Int32)).toNatClampNeg) := inb_of Sz1 ⟨by decide, by decide⟩
    have hat1 : cl1.slots[((1 : Int32)).toNatClampNeg]? = some (.int c1) := Hs1.at hin1 rfl
    have st1 := X0.caload hx (j := (1 : Int32)) (v := (.int c1)) (by rw [e0]; exact Ar1.1) (State.isArrayOf_alike hZ.alike Ar1.2.1) Ar1.2.2 hin1 hat1 (g := (mkF m 7 #[.val (.ref a), .val (.int p2), .val (.int (1 : Int32))] [(.int (1 : Int32)), (.ref a)])) rfl rfl (hb hby d_method_7_7)
    have V1 : Arv Z h0 a kc .char (5 : Int32) [(.int c0), (.int c1), (.int c2), (.int c3), (.int c4)] (.int (0 : Int32)) := ⟨cl1, Ar1, q1, Sz1, Nn1, Hs1, Gt1⟩
    refine own_go (B := s₁.setTop (mkF m 8 #[.val (.ref a), .val (.int p2), .val (.int (1 : Int32))] [(.int c1)])) st1 ?_
    -- pc 8: org/bindery/IriIsAbsolutePinLaw.later
    obtain ⟨_, _, ⟨T2, L2, k2, n2⟩, -, X2, ⟨Lc2, hQ2, l2, y2, z2⟩, st2⟩ := Jvm.LawKit.callS X0 hx (y := (⟨"org/bindery/IriIsAbsolutePinLaw", "later", "(C)Z"⟩ : MethodName)) hown (mvT hZ (hw _ (List.mem_of_getElem? (i := 89) rfl))) (mvT hZ (hw _ (List.mem_of_getElem? (i := 90) rfl))) (mvT hZ (hw _ (List.mem_of_getElem? (i := 4) rfl))) (mvT hZ (hw _ (List.mem_of_getElem? (i := 91) rfl))) (by decide) (backOf (W := 0) (rmLat l Z a0 hw [] c1 h0 n0 O ) hZ (hw _ (List.mem_of_getElem? (i := 91) rfl)) (hw _ (List.mem_of_getElem? (i := 4) rfl)) (by decide) (by decide)) (g := (mkF m 8 #[.val (.ref a), .val (.int p2), .val (.int (1 : Int32))] [(.int c1)])) rfl (by rw [hml]; rfl) (argsL := [(.int c1)]) (rest := []) (lenOf pd_1 rfl) rfl (by show 2 * 0 + _ ≤ _; exact Nat.le_of_eq rfl) (hb hby d_method_7_8) (fun _ hWm => ⟨rfl, e0, (by decide : 0 + 0 ≤ _), (by decide : 0 + 0 ≤ _)⟩)
    dsimp only [Pt.U, Pt.locs, Pt.cells, Pt.slots] at X2 l2 y2 z2 st2 hQ2
    subst l2 y2 z2
    obtain ⟨b2, rfl, Nq2, Kq2, cq2_0, cq2_1⟩ := hQ2
    replace N := Fr.app N Nq2
    refine own_go (B := T2.setTop (mkF m 11 #[.val (.ref a), .val (.int p2), .val (.int (1 : Int32))] [(.int b2)])) st2 ?_
    by_cases q : own_lat c1
    · refine own_go (B := T2.setTop (mkF m 19 #[.val (.ref a), .val (.int p2), .val (.int (1 : Int32))] [(.int (1 : Int32))])) (fun t k => ?_) ?_
      · show Steps p.tables e below (T2.setTop (mkF m 11 #[.val (.ref a), .val (.int p2), .val (.int (1 : Int32))] [(.int b2)])) _
        refine XS.ifNo X2.here hx rfl (hb hby d_method_7_11) rfl ((if0 _ _).trans (feq (by rw [cq2_0 q]; decide)).1) ?_
        show Steps p.tables e below (T2.setTop (mkF m 14 #[.val (.ref a), .val (.int p2), .val (.int (1 : Int32))] [])) _
        refine XS.iconst X2.here hx rfl (hb hby d_method_7_14) ?_
        show Steps p.tables e below (T2.setTop (mkF m 15 #[.val (.ref a), .val (.int p2), .val (.int (1 : Int32))] [(.int (1 : Int32))])) _
        refine XS.goto X2.here hx rfl (pc0 := 15) (pc' := 19) rfl (hb hby d_method_7_15) (by decide) (by decide) ?_
        show Steps p.tables e below (T2.setTop (mkF m 19 #[.val (.ref a), .val (.int p2), .val (.int (1 : Int32))] [(.int (1 : Int32))])) _
        exact k
      obtain ⟨fs, hr, hrun, hended, hW, hsame⟩ := X2.leave (v := some (.int (1 : Int32))) (fun h => by rw [Bd.returns] at h; cases h)
      refine ⟨_, _, retN X2 hx (t := .boolean) Bd.returns (by simp) (hb hby d_method_7_19) hr, hfin _ _ ⟨hrun, hended, _, _, rfl, ?_, ⟨_, rfl⟩, hW, hsame.mono (by decide) (by decide)⟩⟩
      show QLt1 Z a kc c0 c1 c2 c3 c4 p2 h0 n0 _ T2.heap _
      exact ⟨(1 : Int32), rfl, N, Kq2, (fun _ => rfl), (fun qq_ => absurd (show _ from ⟨i2, q⟩) qq_)⟩
    · refine own_go (B := T2.setTop (mkF m 19 #[.val (.ref a), .val (.int p2), .val (.int (1 : Int32))] [(.int (0 : Int32))])) (fun t k => ?_) ?_
      · show Steps p.tables e below (T2.setTop (mkF m 11 #[.val (.ref a), .val (.int p2), .val (.int (1 : Int32))] [(.int b2)])) _
        refine XS.ifYes X2.here hx rfl (pc0 := 11) (pc' := 18) rfl (hb hby d_method_7_11) rfl ((if0 _ _).trans (teq (cq2_1 q)).1) (by decide) (by decide) ?_
        show Steps p.tables e below (T2.setTop (mkF m 18 #[.val (.ref a), .val (.int p2), .val (.int (1 : Int32))] [])) _
        refine XS.iconst X2.here hx rfl (hb hby d_method_7_18) ?_
        show Steps p.tables e below (T2.setTop (mkF m 19 #[.val (.ref a), .val (.int p2), .val (.int (1 : Int32))] [(.int (0 : Int32))])) _
        exact k
      obtain ⟨fs, hr, hrun, hended, hW, hsame⟩ := X2.leave (v := some (.int (0 : Int32))) (fun h => by rw [Bd.returns] at h; cases h)
      refine ⟨_, _, retN X2 hx (t := .boolean) Bd.returns (by simp) (hb hby d_method_7_19) hr, hfin _ _ ⟨hrun, hended, _, _, rfl, ?_, ⟨_, rfl⟩, hW, hsame.mono (by decide) (by decide)⟩⟩
      show QLt1 Z a kc c0 c1 c2 c3 c4 p2 h0 n0 _ T2.heap _
      exact ⟨(0 : Int32), rfl, N, Kq2, (fun qq_ => absurd qq_ (fun z0 => q z0.2)), (fun _ => rfl)⟩
  · refine own_go (B := s₁.setTop (mkF m 19 #[.val (.ref a), .val (.int p2), .val (.int (1 : Int32))] [(.int (0 : Int32))])) (fun t k => ?_) ?_
    · show Steps p.tables e below (s₁.setTop (mkF m 2 #[.val (.ref a), .val (.int p2), .val (.int (1 : Int32))] [(.int p2), (.int (1 : Int32))])) _
      refine XS.icmpYes X0.here hx rfl (pc0 := 2) (pc' := 18) rfl (hb hby d_method_7_2) rfl (flt i2).2.1 (by decide) (by decide) ?_
      show Steps p.tables e below (s₁.setTop (mkF m 18 #[.val (.ref a), .val (.int p2), .val (.int (1 : Int32))] [])) _
      refine XS.iconst X0.here hx rfl (hb hby d_method_7_18) ?_
      show Steps p.tables e below (s₁.setTop (mkF m 19 #[.val (.ref a), .val (.int p2), .val (.int (1 : Int32))] [(.int (0 : Int32))])) _
      exact k
    obtain ⟨fs, hr, hrun, hended, hW, hsame⟩ := X0.leave (v := some (.int (0 : Int32))) (fun h => by rw [Bd.returns] at h; cases h)
    refine ⟨_, _, retN X0 hx (t := .boolean) Bd.returns (by simp) (hb hby d_method_7_19) hr, hfin _ _ ⟨hrun, hended, _, _, rfl, ?_, ⟨_, rfl⟩, hW, hsame.mono (by decide) (by decide)⟩⟩
    show QLt1 Z a kc c0 c1 c2 c3 c4 p2 h0 n0 _ s₁.heap _
    exact ⟨(0 : Int32), rfl, N, e0, (fun qq_ => absurd qq_ (fun z0 => i2 z0.1)), (fun _ => rfl)⟩
def QLt2 (Z : State) (a : Addr) (kc : ClassId) (c0 : Int32) (c1 : Int32) (c2 : Int32) (c3 : Int32) (c4 : Int32) (p2 : Int32) (h0 : Heap) (n0 : Nat) (v : Option Value) (h : Heap) (L : List Loc) : Prop := ∃ b : Int32, v = some (.int b) ∧ Fr n0 L ∧ h = h0 ∧ (((2 : Int32) < p2 ∧ own_lat c2) → b = (1 : Int32)) ∧ (¬ ((2 : Int32) < p2 ∧ own_lat c2) → b = (0 : Int32))
theorem ef_Lt2 (m : MethodId) (a : Addr) (p2 : Int32) : entryFrame m #[(.ref a), (.int p2), (.int (2 : Int32))] 3 = mkF m 0 #[.val (.ref a), .val (.int p2), .val (.int (2 : Int32))] [] := by first | (simp [entryFrame, mkF, argsToLocals, Value.category]; done) | rfl | (rfl)
set_option maxRecDepth 65536 in
set_option maxHeartbeats 40000000 in
theorem rmLt2 (l : Launch) (Z : State) (a0 : Array Value) (hw : ∀ d ∈ tables_1, d.before a0 Z = true) (ws : List Jvm.Cond) (a : Addr) (kc : ClassId) (c0 : Int32) (c1 : Int32) (c2 : Int32) (c3 : Int32) (c4 : Int32) (p2 : Int32) (h0 : Heap) (n0 : Nat) (O : Old Z n0 h0) (V : Arv Z h0 a kc .char (5 : Int32) [(.int c0), (.int c1), (.int c2), (.int c3), (.int c4)] (.int (0 : Int32))) :
    MetFree l (⟨"org/bindery/IriIsAbsolutePinLaw", "laterAt", "([CII)Z"⟩ : MethodName) (head1 (Jvm.Cond.code (⟨"org/bindery/IriIsAbsolutePinLaw", "laterAt", "([CII)Z"⟩ : MethodName) method_7_code 3 (some .boolean) :: ws) ({ frames := 2, cells := 0, slots := 0, locals := 24 } : Room)) (fun as_ U => as_ = #[(.ref a), (.int p2), (.int (2 : Int32))] ∧ Z.Warmed39 U.vm ∧ U.heap = h0) (fun _ _ _ _ _ => True) (fun _ U oo_ U' => ∃ vv_ LL_, oo_ = .returned vv_ ∧ QLt2 Z a kc c0 c1 c2 c3 c4 p2 h0 n0 vv_ U'.heap LL_ ∧ FrameEnd U oo_ U' LL_ ({ frames := 2, cells := 0, slots := 0, locals := 24 } : Room).cells ({ frames := 2, cells := 0, slots := 0, locals := 24 } : Room).slots) := by
  refine MetFree.of_bodySF (plainFor_of_name pn_1) hisR ?_
  intro p e s m args below meth c s₁ Bd hml0 hP hK
  obtain ⟨rfl, hZ, hh⟩ := hP
  have hx := Bd.exec
  have hby := Bd.bytes
  have hml : c.maxLocals = 3 := hml0
  have hown : s.vm.findClass "org/bindery/IriIsAbsolutePinLaw" = some m.cls := findClass_of_methodNamed Bd.named
  have hnm := (name_of_methodNamed Bd.named Bd.method).1
  have X0 : Stand p l e ({ frames := 2, cells := 0, slots := 0, locals := 24 } : Room) s m #[(.ref a), (.int p2), (.int (2 : Int32))] below meth c s₁ [] 0 0 := Stand.of_body Bd
  have e0 : s₁.heap = h0 := by rw [← hh, Bd.state]; rfl
  have N := Fr.nil n0
  have K : Keep h0 h0 [] := Keep.refl h0 _
  refine own_go (B := s₁.setTop (mkF m 0 #[.val (.ref a), .val (.int p2), .val (.int (2 : Int32))] [])) (fun t k => castTop (ef_Lt2 m a p2) k) ?_
  refine own_abs (fun P hfin => ?_)
  refine own_go (B := s₁.setTop (mkF m 2 #[.val (.ref a), .val (.int p2), .val (.int (2 : Int32))] [(.int p2), (.int (2 : Int32))])) (fun t k => ?_) ?_
  · show Steps p.tables e below (s₁.setTop (mkF m 0 #[.val (.ref a), .val (.int p2), .val (.int (2 : Int32))] [])) _
    refine XS.iloadN X0.here hx rfl (hb hby d_method_7_0) rfl ?_
    show Steps p.tables e below (s₁.setTop (mkF m 1 #[.val (.ref a), .val (.int p2), .val (.int (2 : Int32))] [(.int (2 : Int32))])) _
    refine XS.iloadN X0.here hx rfl (hb hby d_method_7_1) rfl ?_
    show Steps p.tables e below (s₁.setTop (mkF m 2 #[.val (.ref a), .val (.int p2), .val (.int (2 : Int32))] [(.int p2), (.int (2 : Int32))])) _
    exact k
  by_cases i2 : (2 : Int32) < p2
  · refine own_go (B := s₁.setTop (mkF m 7 #[.val (.ref a), .val (.int p2), .val (.int (2 : Int32))] [(.int (2 : Int32)), (.ref a)])) (fun t k => ?_) ?_
    · show Steps p.tables e below (s₁.setTop (mkF m 2 #[.val (.ref a), .val (.int p2), .val (.int (2 : Int32))] [(.int p2), (.int (2 : Int32))])) _
      refine XS.icmpNo X0.here hx rfl (hb hby d_method_7_2) rfl (tlt i2).2.1 ?_
      show Steps p.tables e below (s₁.setTop (mkF m 5 #[.val (.ref a), .val (.int p2), .val (.int (2 : Int32))] [])) _
      refine XS.aloadN X0.here hx rfl (hb hby d_method_7_5) rfl rfl ?_
      show Steps p.tables e below (s₁.setTop (mkF m 6 #[.val (.ref a), .val (.int p2), .val (.int (2 : Int32))] [(.ref a)])) _
      refine XS.iloadN X0.here hx rfl (hb hby d_method_7_6) rfl ?_
      show Steps p.tables e below (s₁.setTop (mkF m 7 #[.val (.ref a), .val (.int p2), .val (.int (2 : Int32))] [(.int (2 : Int32)), (.ref a)])) _
      exact k
    obtain ⟨cl1, Ar1, q1, Sz1, Nn1, Hs1, Gt1⟩ := V
    have hin1 : ¬ ((2 : Int32) < 0 ∨ cl1.slots.size ≤ ((2 : Int32)).toNatClampNeg) := inb_of Sz1 ⟨by decide, by decide⟩
    have hat1 : cl1.slots[((2 : Int32)).toNatClampNeg]? = some (.int c2) := Hs1.at hin1 rfl
    have st1 := X0.caload hx (j := (2 : Int32)) (v := (.int c2)) (by rw [e0]; exact Ar1.1) (State.isArrayOf_alike hZ.alike Ar1.2.1) Ar1.2.2 hin1 hat1 (g := (mkF m 7 #[.val (.ref a), .val (.int p2), .val (.int (2 : Int32))] [(.int (2 : Int32)), (.ref a)])) rfl rfl (hb hby d_method_7_7)
    have V1 : Arv Z h0 a kc .char (5 : Int32) [(.int c0), (.int c1), (.int c2), (.int c3), (.int c4)] (.int (0 : Int32)) := ⟨cl1, Ar1, q1, Sz1, Nn1, Hs1, Gt1⟩
    refine own_go (B := s₁.setTop (mkF m 8 #[.val (.ref a), .val (.int p2), .val (.int (2 : Int32))] [(.int c2)])) st1 ?_
    -- pc 8: org/bindery/IriIsAbsolutePinLaw.later
    obtain ⟨_, _, ⟨T2, L2, k2, n2⟩, -, X2, ⟨Lc2, hQ2, l2, y2, z2⟩, st2⟩ := Jvm.LawKit.callS X0 hx (y := (⟨"org/bindery/IriIsAbsolutePinLaw", "later", "(C)Z"⟩ : MethodName)) hown (mvT hZ (hw _ (List.mem_of_getElem? (i := 89) rfl))) (mvT hZ (hw _ (List.mem_of_getElem? (i := 90) rfl))) (mvT hZ (hw _ (List.mem_of_getElem? (i := 4) rfl))) (mvT hZ (hw _ (List.mem_of_getElem? (i := 91) rfl))) (by decide) (backOf (W := 0) (rmLat l Z a0 hw [] c2 h0 n0 O ) hZ (hw _ (List.mem_of_getElem? (i := 91) rfl)) (hw _ (List.mem_of_getElem? (i := 4) rfl)) (by decide) (by decide)) (g := (mkF m 8 #[.val (.ref a), .val (.int p2), .val (.int (2 : Int32))] [(.int c2)])) rfl (by rw [hml]; rfl) (argsL := [(.int c2)]) (rest := []) (lenOf pd_1 rfl) rfl (by show 2 * 0 + _ ≤ _; exact Nat.le_of_eq rfl) (hb hby d_method_7_8) (fun _ hWm => ⟨rfl, e0, (by decide : 0 + 0 ≤ _), (by decide : 0 + 0 ≤ _)⟩)
    dsimp only [Pt.U, Pt.locs, Pt.cells, Pt.slots] at X2 l2 y2 z2 st2 hQ2
    subst l2 y2 z2
    obtain ⟨b2, rfl, Nq2, Kq2, cq2_0, cq2_1⟩ := hQ2
    replace N := Fr.app N Nq2
    refine own_go (B := T2.setTop (mkF m 11 #[.val (.ref a), .val (.int p2), .val (.int (2 : Int32))] [(.int b2)])) st2 ?_
    by_cases q : own_lat c2
    · refine own_go (B := T2.setTop (mkF m 19 #[.val (.ref a), .val (.int p2), .val (.int (2 : Int32))] [(.int (1 : Int32))])) (fun t k => ?_) ?_
      · show Steps p.tables e below (T2.setTop (mkF m 11 #[.val (.ref a), .val (.int p2), .val (.int (2 : Int32))] [(.int b2)])) _
        refine XS.ifNo X2.here hx rfl (hb hby d_method_7_11) rfl ((if0 _ _).trans (feq (by rw [cq2_0 q]; decide)).1) ?_
        show Steps p.tables e below (T2.setTop (mkF m 14 #[.val (.ref a), .val (.int p2), .val (.int (2 : Int32))] [])) _
        refine XS.iconst X2.here hx rfl (hb hby d_method_7_14) ?_
        show Steps p.tables e below (T2.setTop (mkF m 15 #[.val (.ref a), .val (.int p2), .val (.int (2 : Int32))] [(.int (1 : Int32))])) _
        refine XS.goto X2.here hx rfl (pc0 := 15) (pc' := 19) rfl (hb hby d_method_7_15) (by decide) (by decide) ?_
        show Steps p.tables e below (T2.setTop (mkF m 19 #[.val (.ref a), .val (.int p2), .val (.int (2 : Int32))] [(.int (1 : Int32))])) _
        exact k
      obtain ⟨fs, hr, hrun, hended, hW, hsame⟩ := X2.leave (v := some (.int (1 : Int32))) (fun h => by rw [Bd.returns] at h; cases h)
      refine ⟨_, _, retN X2 hx (t := .boolean) Bd.returns (by simp) (hb hby d_method_7_19) hr, hfin _ _ ⟨hrun, hended, _, _, rfl, ?_, ⟨_, rfl⟩, hW, hsame.mono (by decide) (by decide)⟩⟩
      show QLt2 Z a kc c0 c1 c2 c3 c4 p2 h0 n0 _ T2.heap _
      exact ⟨(1 : Int32), rfl, N, Kq2, (fun _ => rfl), (fun qq_ => absurd (show _ from ⟨i2, q⟩) qq_)⟩
    · refine own_go (B := T2.setTop (mkF m 19 #[.val (.ref a), .val (.int p2), .val (.int (2 : Int32))] [(.int (0 : Int32))])) (fun t k => ?_) ?_
      · show Steps p.tables e below (T2.setTop (mkF m 11 #[.val (.ref a), .val (.int p2), .val (.int (2 : Int32))] [(.int b2)])) _
        refine XS.ifYes X2.here hx rfl (pc0 := 11) (pc' := 18) rfl (hb hby d_method_7_11) rfl ((if0 _ _).trans (teq (cq2_1 q)).1) (by decide) (by decide) ?_
        show Steps p.tables e below (T2.setTop (mkF m 18 #[.val (.ref a), .val (.int p2), .val (.int (2 : Int32))] [])) _
        refine XS.iconst X2.here hx rfl (hb hby d_method_7_18) ?_
        show Steps p.tables e below (T2.setTop (mkF m 19 #[.val (.ref a), .val (.int p2), .val (.int (2 : Int32))] [(.int (0 : Int32))])) _
        exact k
      obtain ⟨fs, hr, hrun, hended, hW, hsame⟩ := X2.leave (v := some (.int (0 : Int32))) (fun h => by rw [Bd.returns] at h; cases h)
      refine ⟨_, _, retN X2 hx (t := .boolean) Bd.returns (by simp) (hb hby d_method_7_19) hr, hfin _ _ ⟨hrun, hended, _, _, rfl, ?_, ⟨_, rfl⟩, hW, hsame.mono (by decide) (by decide)⟩⟩
      show QLt2 Z a kc c0 c1 c2 c3 c4 p2 h0 n0 _ T2.heap _
      exact ⟨(0 : Int32), rfl, N, Kq2, (fun qq_ => absurd qq_ (fun z0 => q z0.2)), (fun _ => rfl)⟩
  · refine own_go (B := s₁.setTop (mkF m 19 #[.val (.ref a), .val (.int p2), .val (.int (2 : Int32))] [(.int (0 : Int32))])) (fun t k => ?_) ?_
    · show Steps p.tables e below (s₁.setTop (mkF m 2 #[.val (.ref a), .val (.int p2), .val (.int (2 : Int32))] [(.int p2), (.int (2 : Int32))])) _
      refine XS.icmpYes X0.here hx rfl (pc0 := 2) (pc' := 18) rfl (hb hby d_method_7_2) rfl (flt i2).2.1 (by decide) (by decide) ?_
      show Steps p.tables e below (s₁.setTop (mkF m 18 #[.val (.ref a), .val (.int p2), .val (.int (2 : Int32))] [])) _
      refine XS.iconst X0.here hx rfl (hb hby d_method_7_18) ?_
      show Steps p.tables e below (s₁.setTop (mkF m 19 #[.val (.ref a), .val (.int p2), .val (.int (2 : Int32))] [(.int (0 : Int32))])) _
      exact k
    obtain ⟨fs, hr, hrun, hended, hW, hsame⟩ := X0.leave (v := some (.int (0 : Int32))) (fun h => by rw [Bd.returns] at h; cases h)
    refine ⟨_, _, retN X0 hx (t := .boolean) Bd.returns (by simp) (hb hby d_method_7_19) hr, hfin _ _ ⟨hrun, hended, _, _, rfl, ?_, ⟨_, rfl⟩, hW, hsame.mono (by decide) (by decide)⟩⟩
    show QLt2 Z a kc c0 c1 c2 c3 c4 p2 h0 n0 _ s₁.heap _
    exact ⟨(0 : Int32), rfl, N, e0, (fun qq_ => absurd qq_ (fun z0 => i2 z0.1)), (fun _ => rfl)⟩
def QLt3 (Z : State) (a : Addr) (kc : ClassId) (c0 : Int32) (c1 : Int32) (c2 : Int32) (c3 : Int32) (c4 : Int32) (p2 : Int32) (h0 : Heap) (n0 : Nat) (v : Option Value) (h : Heap) (L : List Loc) : Prop := ∃ b : Int32, v = some (.int b) ∧ Fr n0 L ∧ h = h0 ∧ (((3 : Int32) < p2 ∧ own_lat c3) → b = (1 : Int32)) ∧ (¬ ((3 : Int32) < p2 ∧ own_lat c3) → b = (0 : Int32))
theorem ef_Lt3 (m : MethodId) (a : Addr) (p2 : Int32) : entryFrame m #[(.ref a), (.int p2), (.int (3 : Int32))] 3 = mkF m 0 #[.val (.ref a), .val (.int p2), .val (.int (3 : Int32))] [] := by first | (simp [entryFrame, mkF, argsToLocals, Value.category]; done) | rfl | (rfl)
set_option maxRecDepth 65536 in
set_option maxHeartbeats 40000000 in
theorem rmLt3 (l : Launch) (Z : State) (a0 : Array Value) (hw : ∀ d ∈ tables_1, d.before a0 Z = true) (ws : List Jvm.Cond) (a : Addr) (kc : ClassId) (c0 : Int32) (c1 : Int32) (c2 : Int32) (c3 : Int32) (c4 : Int32) (p2 : Int32) (h0 : Heap) (n0 : Nat) (O : Old Z n0 h0) (V : Arv Z h0 a kc .char (5 : Int32) [(.int c0), (.int c1), (.int c2), (.int c3), (.int c4)] (.int (0 : Int32))) :
    MetFree l (⟨"org/bindery/IriIsAbsolutePinLaw", "laterAt", "([CII)Z"⟩ : MethodName) (head1 (Jvm.Cond.code (⟨"org/bindery/IriIsAbsolutePinLaw", "laterAt", "([CII)Z"⟩ : MethodName) method_7_code 3 (some .boolean) :: ws) ({ frames := 2, cells := 0, slots := 0, locals := 24 } : Room)) (fun as_ U => as_ = #[(.ref a), (.int p2), (.int (3 : Int32))] ∧ Z.Warmed39 U.vm ∧ U.heap = h0) (fun _ _ _ _ _ => True) (fun _ U oo_ U' => ∃ vv_ LL_, oo_ = .returned vv_ ∧ QLt3 Z a kc c0 c1 c2 c3 c4 p2 h0 n0 vv_ U'.heap LL_ ∧ FrameEnd U oo_ U' LL_ ({ frames := 2, cells := 0, slots := 0, locals := 24 } : Room).cells ({ frames := 2, cells := 0, slots := 0, locals := 24 } : Room).slots) := by
  refine MetFree.of_bodySF (plainFor_of_name pn_1) hisR ?_
  intro p e s m args below meth c s₁ Bd hml0 hP hK
  obtain ⟨rfl, hZ, hh⟩ := hP
  have hx := Bd.exec
  have hby := Bd.bytes
  have hml : c.maxLocals = 3 := hml0
  have hown : s.vm.findClass "org/bindery/IriIsAbsolutePinLaw" = some m.cls := findClass_of_methodNamed Bd.named
  have hnm := (name_of_methodNamed Bd.named Bd.method).1
  have X0 : Stand p l e ({ frames := 2, cells := 0, slots := 0, locals := 24 } : Room) s m #[(.ref a), (.int p2), (.int (3 : Int32))] below meth c s₁ [] 0 0 := Stand.of_body Bd
  have e0 : s₁.heap = h0 := by rw [← hh, Bd.state]; rfl
  have N := Fr.nil n0
  have K : Keep h0 h0 [] := Keep.refl h0 _
  refine own_go (B := s₁.setTop (mkF m 0 #[.val (.ref a), .val (.int p2), .val (.int (3 : Int32))] [])) (fun t k => castTop (ef_Lt3 m a p2) k) ?_
  refine own_abs (fun P hfin => ?_)
  refine own_go (B := s₁.setTop (mkF m 2 #[.val (.ref a), .val (.int p2), .val (.int (3 : Int32))] [(.int p2), (.int (3 : Int32))])) (fun t k => ?_) ?_
  · show Steps p.tables e below (s₁.setTop (mkF m 0 #[.val (.ref a), .val (.int p2), .val (.int (3 : Int32))] [])) _
    refine XS.iloadN X0.here hx rfl (hb hby d_method_7_0) rfl ?_
    show Steps p.tables e below (s₁.setTop (mkF m 1 #[.val (.ref a), .val (.int p2), .val (.int (3 : Int32))] [(.int (3 : Int32))])) _
    refine XS.iloadN X0.here hx rfl (hb hby d_method_7_1) rfl ?_
    show Steps p.tables e below (s₁.setTop (mkF m 2 #[.val (.ref a), .val (.int p2), .val (.int (3 : Int32))] [(.int p2), (.int (3 : Int32))])) _
    exact k
  by_cases i2 : (3 : Int32) < p2
  · refine own_go (B := s₁.setTop (mkF m 7 #[.val (.ref a), .val (.int p2), .val (.int (3 : Int32))] [(.int (3 : Int32)), (.ref a)])) (fun t k => ?_) ?_
    · show Steps p.tables e below (s₁.setTop (mkF m 2 #[.val (.ref a), .val (.int p2), .val (.int (3 : Int32))] [(.int p2), (.int (3 : Int32))])) _
      refine XS.icmpNo X0.here hx rfl (hb hby d_method_7_2) rfl (tlt i2).2.1 ?_
      show Steps p.tables e below (s₁.setTop (mkF m 5 #[.val (.ref a), .val (.int p2), .val (.int (3 : Int32))] [])) _
      refine XS.aloadN X0.here hx rfl (hb hby d_method_7_5) rfl rfl ?_
      show Steps p.tables e below (s₁.setTop (mkF m 6 #[.val (.ref a), .val (.int p2), .val (.int (3 : Int32))] [(.ref a)])) _
      refine XS.iloadN X0.here hx rfl (hb hby d_method_7_6) rfl ?_
      show Steps p.tables e below (s₁.setTop (mkF m 7 #[.val (.ref a), .val (.int p2), .val (.int (3 : Int32))] [(.int (3 : Int32)), (.ref a)])) _
      exact k
    obtain ⟨cl1, Ar1, q1, Sz1, Nn1, Hs1, Gt1⟩ := V
    have hin1 : ¬ ((3 : Int32) < 0 ∨ cl1.slots.size ≤ ((3 : Int32)).toNatClampNeg) := inb_of Sz1 ⟨by decide, by decide⟩
    have hat1 : cl1.slots[((3 : Int32)).toNatClampNeg]? = some (.int c3) := Hs1.at hin1 rfl
    have st1 := X0.caload hx (j := (3 : Int32)) (v := (.int c3)) (by rw [e0]; exact Ar1.1) (State.isArrayOf_alike hZ.alike Ar1.2.1) Ar1.2.2 hin1 hat1 (g := (mkF m 7 #[.val (.ref a), .val (.int p2), .val (.int (3 : Int32))] [(.int (3 : Int32)), (.ref a)])) rfl rfl (hb hby d_method_7_7)
    have V1 : Arv Z h0 a kc .char (5 : Int32) [(.int c0), (.int c1), (.int c2), (.int c3), (.int c4)] (.int (0 : Int32)) := ⟨cl1, Ar1, q1, Sz1, Nn1, Hs1, Gt1⟩
    refine own_go (B := s₁.setTop (mkF m 8 #[.val (.ref a), .val (.int p2), .val (.int (3 : Int32))] [(.int c3)])) st1 ?_
    -- pc 8: org/bindery/IriIsAbsolutePinLaw.later
    obtain ⟨_, _, ⟨T2, L2, k2, n2⟩, -, X2, ⟨Lc2, hQ2, l2, y2, z2⟩, st2⟩ := Jvm.LawKit.callS X0 hx (y := (⟨"org/bindery/IriIsAbsolutePinLaw", "later", "(C)Z"⟩ : MethodName)) hown (mvT hZ (hw _ (List.mem_of_getElem? (i := 89) rfl))) (mvT hZ (hw _ (List.mem_of_getElem? (i := 90) rfl))) (mvT hZ (hw _ (List.mem_of_getElem? (i := 4) rfl))) (mvT hZ (hw _ (List.mem_of_getElem? (i := 91) rfl))) (by decide) (backOf (W := 0) (rmLat l Z a0 hw [] c3 h0 n0 O ) hZ (hw _ (List.mem_of_getElem? (i := 91) rfl)) (hw _ (List.mem_of_getElem? (i := 4) rfl)) (by decide) (by decide)) (g := (mkF m 8 #[.val (.ref a), .val (.int p2), .val (.int (3 : Int32))] [(.int c3)])) rfl (by rw [hml]; rfl) (argsL := [(.int c3)]) (rest := []) (lenOf pd_1 rfl) rfl (by show 2 * 0 + _ ≤ _; exact Nat.le_of_eq rfl) (hb hby d_method_7_8) (fun _ hWm => ⟨rfl, e0, (by decide : 0 + 0 ≤ _), (by decide : 0 + 0 ≤ _)⟩)
    dsimp only [Pt.U, Pt.locs, Pt.cells, Pt.slots] at X2 l2 y2 z2 st2 hQ2
    subst l2 y2 z2
    obtain ⟨b2, rfl, Nq2, Kq2, cq2_0, cq2_1⟩ := hQ2
    replace N := Fr.app N Nq2
    refine own_go (B := T2.setTop (mkF m 11 #[.val (.ref a), .val (.int p2), .val (.int (3 : Int32))] [(.int b2)])) st2 ?_
    by_cases q : own_lat c3
    · refine own_go (B := T2.setTop (mkF m 19 #[.val (.ref a), .val (.int p2), .val (.int (3 : Int32))] [(.int (1 : Int32))])) (fun t k => ?_) ?_
      · show Steps p.tables e below (T2.setTop (mkF m 11 #[.val (.ref a), .val (.int p2), .val (.int (3 : Int32))] [(.int b2)])) _
        refine XS.ifNo X2.here hx rfl (hb hby d_method_7_11) rfl ((if0 _ _).trans (feq (by rw [cq2_0 q]; decide)).1) ?_
        show Steps p.tables e below (T2.setTop (mkF m 14 #[.val (.ref a), .val (.int p2), .val (.int (3 : Int32))] [])) _
        refine XS.iconst X2.here hx rfl (hb hby d_method_7_14) ?_
        show Steps p.tables e below (T2.setTop (mkF m 15 #[.val (.ref a), .val (.int p2), .val (.int (3 : Int32))] [(.int (1 : Int32))])) _
        refine XS.goto X2.here hx rfl (pc0 := 15) (pc' := 19) rfl (hb hby d_method_7_15) (by decide) (by decide) ?_
        show Steps p.tables e below (T2.setTop (mkF m 19 #[.val (.ref a), .val (.int p2), .val (.int (3 : Int32))] [(.int (1 : Int32))])) _
        exact k
      obtain ⟨fs, hr, hrun, hended, hW, hsame⟩ := X2.leave (v := some (.int (1 : Int32))) (fun h => by rw [Bd.returns] at h; cases h)
      refine ⟨_, _, retN X2 hx (t := .boolean) Bd.returns (by simp) (hb hby d_method_7_19) hr, hfin _ _ ⟨hrun, hended, _, _, rfl, ?_, ⟨_, rfl⟩, hW, hsame.mono (by decide) (by decide)⟩⟩
      show QLt3 Z a kc c0 c1 c2 c3 c4 p2 h0 n0 _ T2.heap _
      exact ⟨(1 : Int32), rfl, N, Kq2, (fun _ => rfl), (fun qq_ => absurd (show _ from ⟨i2, q⟩) qq_)⟩
    · refine own_go (B := T2.setTop (mkF m 19 #[.val (.ref a), .val (.int p2), .val (.int (3 : Int32))] [(.int (0 : Int32))])) (fun t k => ?_) ?_
      · show Steps p.tables e below (T2.setTop (mkF m 11 #[.val (.ref a), .val (.int p2), .val (.int (3 : Int32))] [(.int b2)])) _
        refine XS.ifYes X2.here hx rfl (pc0 := 11) (pc' := 18) rfl (hb hby d_method_7_11) rfl ((if0 _ _).trans (teq (cq2_1 q)).1) (by decide) (by decide) ?_
        show Steps p.tables e below (T2.setTop (mkF m 18 #[.val (.ref a), .val (.int p2), .val (.int (3 : Int32))] [])) _
        refine XS.iconst X2.here hx rfl (hb hby d_method_7_18) ?_
        show Steps p.tables e below (T2.setTop (mkF m 19 #[.val (.ref a), .val (.int p2), .val (.int (3 : Int32))] [(.int (0 : Int32))])) _
        exact k
      obtain ⟨fs, hr, hrun, hended, hW, hsame⟩ := X2.leave (v := some (.int (0 : Int32))) (fun h => by rw [Bd.returns] at h; cases h)
      refine ⟨_, _, retN X2 hx (t := .boolean) Bd.returns (by simp) (hb hby d_method_7_19) hr, hfin _ _ ⟨hrun, hended, _, _, rfl, ?_, ⟨_, rfl⟩, hW, hsame.mono (by decide) (by decide)⟩⟩
      show QLt3 Z a kc c0 c1 c2 c3 c4 p2 h0 n0 _ T2.heap _
      exact ⟨(0 : Int32), rfl, N, Kq2, (fun qq_ => absurd qq_ (fun z0 => q z0.2)), (fun _ => rfl)⟩
  · refine own_go (B := s₁.setTop (mkF m 19 #[.val (.ref a), .val (.int p2), .val (.int (3 : Int32))] [(.int (0 : Int32))])) (fun t k => ?_) ?_
    · show Steps p.tables e below (s₁.setTop (mkF m 2 #[.val (.ref a), .val (.int p2), .val (.int (3 : Int32))] [(.int p2), (.int (3 : Int32))])) _
      refine XS.icmpYes X0.here hx rfl (pc0 := 2) (pc' := 18) rfl (hb hby d_method_7_2) rfl (flt i2).2.1 (by decide) (by decide) ?_
      show Steps p.tables e below (s₁.setTop (mkF m 18 #[.val (.ref a), .val (.int p2), .val (.int (3 : Int32))] [])) _
      refine XS.iconst X0.here hx rfl (hb hby d_method_7_18) ?_
      show Steps p.tables e below (s₁.setTop (mkF m 19 #[.val (.ref a), .val (.int p2), .val (.int (3 : Int32))] [(.int (0 : Int32))])) _
      exact k
    obtain ⟨fs, hr, hrun, hended, hW, hsame⟩ := X0.leave (v := some (.int (0 : Int32))) (fun h => by rw [Bd.returns] at h; cases h)
    refine ⟨_, _, retN X0 hx (t := .boolean) Bd.returns (by simp) (hb hby d_method_7_19) hr, hfin _ _ ⟨hrun, hended, _, _, rfl, ?_, ⟨_, rfl⟩, hW, hsame.mono (by decide) (by decide)⟩⟩
    show QLt3 Z a kc c0 c1 c2 c3 c4 p2 h0 n0 _ s₁.heap _
    exact ⟨(0 : Int32), rfl, N, e0, (fun qq_ => absurd qq_ (fun z0 => i2 z0.1)), (fun _ => rfl)⟩
def QCo1 (Z : State) (a : Addr) (kc : ClassId) (c0 : Int32) (c1 : Int32) (c2 : Int32) (c3 : Int32) (c4 : Int32) (p2 : Int32) (h0 : Heap) (n0 : Nat) (v : Option Value) (h : Heap) (L : List Loc) : Prop := ∃ b : Int32, v = some (.int b) ∧ Fr n0 L ∧ h = h0 ∧ (((1 : Int32) < p2 ∧ c1 = (58 : Int32)) → b = (1 : Int32)) ∧ (¬ ((1 : Int32) < p2 ∧ c1 = (58 : Int32)) → b = (0 : Int32))
theorem ef_Co1 (m : MethodId) (a : Addr) (p2 : Int32) : entryFrame m #[(.ref a), (.int p2), (.int (1 : Int32))] 3 = mkF m 0 #[.val (.ref a), .val (.int p2), .val (.int (1 : Int32))] [] := by first | (simp [entryFrame, mkF, argsToLocals, Value.category]; done) | rfl | (rfl)
set_option maxRecDepth 65536 in
set_option maxHeartbeats 40000000 in
theorem rmCo1 (l : Launch) (Z : State) (a0 : Array Value) (hw : ∀ d ∈ tables_1, d.before a0 Z = true) (ws : List Jvm.Cond) (a : Addr) (kc : ClassId) (c0 : Int32) (c1 : Int32) (c2 : Int32) (c3 : Int32) (c4 : Int32) (p2 : Int32) (h0 : Heap) (n0 : Nat) (O : Old Z n0 h0) (V : Arv Z h0 a kc .char (5 : Int32) [(.int c0), (.int c1), (.int c2), (.int c3), (.int c4)] (.int (0 : Int32))) :
    MetFree l (⟨"org/bindery/IriIsAbsolutePinLaw", "colonAt", "([CII)Z"⟩ : MethodName) (head1 (Jvm.Cond.code (⟨"org/bindery/IriIsAbsolutePinLaw", "colonAt", "([CII)Z"⟩ : MethodName) method_8_code 3 (some .boolean) :: ws) ({ frames := 0, cells := 0, slots := 0, locals := 0 } : Room)) (fun as_ U => as_ = #[(.ref a), (.int p2), (.int (1 : Int32))] ∧ Z.Warmed39 U.vm ∧ U.heap = h0) (fun _ _ _ _ _ => True) (fun _ U oo_ U' => ∃ vv_ LL_, oo_ = .returned vv_ ∧ QCo1 Z a kc c0 c1 c2 c3 c4 p2 h0 n0 vv_ U'.heap LL_ ∧ FrameEnd U oo_ U' LL_ ({ frames := 0, cells := 0, slots := 0, locals := 0 } : Room).cells ({ frames := 0, cells := 0, slots := 0, locals := 0 } : Room).slots) := by
  refine MetFree.of_bodySF (plainFor_of_name pn_1) hisR ?_
  intro p e s m args below meth c s₁ Bd hml0 hP hK
  obtain ⟨rfl, hZ, hh⟩ := hP
  have hx := Bd.exec
  have hby := Bd.bytes
  have hml : c.maxLocals = 3 := hml0
  have hown : s.vm.findClass "org/bindery/IriIsAbsolutePinLaw" = some m.cls := findClass_of_methodNamed Bd.named
  have hnm := (name_of_methodNamed Bd.named Bd.method).1
  have X0 : Stand p l e ({ frames := 0, cells := 0, slots := 0, locals := 0 } : Room) s m #[(.ref a), (.int p2), (.int (1 : Int32))] below meth c s₁ [] 0 0 := Stand.of_body Bd
  have e0 : s₁.heap = h0 := by rw [← hh, Bd.state]; rfl
  have N := Fr.nil n0
  have K : Keep h0 h0 [] := Keep.refl h0 _
  refine own_go (B := s₁.setTop (mkF m 0 #[.val (.ref a), .val (.int p2), .val (.int (1 : Int32))] [])) (fun t k => castTop (ef_Co1 m a p2) k) ?_
  refine own_abs (fun P hfin => ?_)
  refine own_go (B := s₁.setTop (mkF m 2 #[.val (.ref a), .val (.int p2), .val (.int (1 : Int32))] [(.int p2), (.int (1 : Int32))])) (fun t k => ?_) ?_
  · show Steps p.tables e below (s₁.setTop (mkF m 0 #[.val (.ref a), .val (.int p2), .val (.int (1 : Int32))] [])) _
    refine XS.iloadN X0.here hx rfl (hb hby d_method_8_0) rfl ?_
    show Steps p.tables e below (s₁.setTop (mkF m 1 #[.val (.ref a), .val (.int p2), .val (.int (1 : Int32))] [(.int (1 : Int32))])) _
    refine XS.iloadN X0.here hx rfl (hb hby d_method_8_1) rfl ?_
    show Steps p.tables e below (s₁.setTop (mkF m 2 #[.val (.ref a), .val (.int p2), .val (.int (1 : Int32))] [(.int p2), (.int (1 : Int32))])) _
    exact k
  by_cases i2 : (1 : Int32) < p2
  · refine own_go (B := s₁.setTop (mkF m 7 #[.val (.ref a), .val (.int p2), .val (.int (1 : Int32))] [(.int (1 : Int32)), (.ref a)])) (fun t k => ?_) ?_
    · show Steps p.tables e below (s₁.setTop (mkF m 2 #[.val (.ref a), .val (.int p2), .val (.int (1 : Int32))] [(.int p2), (.int (1 : Int32))])) _
      refine XS.icmpNo X0.here hx rfl (hb hby d_method_8_2) rfl (tlt i2).2.1 ?_
      show Steps p.tables e below (s₁.setTop (mkF m 5 #[.val (.ref a), .val (.int p2), .val (.int (1 : Int32))] [])) _
      refine XS.aloadN X0.here hx rfl (hb hby d_method_8_5) rfl rfl ?_
      show Steps p.tables e below (s₁.setTop (mkF m 6 #[.val (.ref a), .val (.int p2), .val (.int (1 : Int32))] [(.ref a)])) _
      refine XS.iloadN X0.here hx rfl (hb hby d_method_8_6) rfl ?_
      show Steps p.tables e below (s₁.setTop (mkF m 7 #[.val (.ref a), .val (.int p2), .val (.int (1 : Int32))] [(.int (1 : Int32)), (.ref a)])) _
      exact k
    obtain ⟨cl1, Ar1, q1, Sz1, Nn1, Hs1, Gt1⟩ := V
    have hin1 : ¬ ((1 : Int32) < 0 ∨ cl1.slots.size ≤ ((1 : Int32)).toNatClampNeg) := inb_of Sz1 ⟨by decide, by decide⟩
    have hat1 : cl1.slots[((1 : Int32)).toNatClampNeg]? = some (.int c1) := Hs1.at hin1 rfl
    have st1 := X0.caload hx (j := (1 : Int32)) (v := (.int c1)) (by rw [e0]; exact Ar1.1) (State.isArrayOf_alike hZ.alike Ar1.2.1) Ar1.2.2 hin1 hat1 (g := (mkF m 7 #[.val (.ref a), .val (.int p2), .val (.int (1 : Int32))] [(.int (1 : Int32)), (.ref a)])) rfl rfl (hb hby d_method_8_7)
    have V1 : Arv Z h0 a kc .char (5 : Int32) [(.int c0), (.int c1), (.int c2), (.int c3), (.int c4)] (.int (0 : Int32)) := ⟨cl1, Ar1, q1, Sz1, Nn1, Hs1, Gt1⟩
    refine own_go (B := s₁.setTop (mkF m 8 #[.val (.ref a), .val (.int p2), .val (.int (1 : Int32))] [(.int c1)])) st1 ?_
    refine own_go (B := s₁.setTop (mkF m 10 #[.val (.ref a), .val (.int p2), .val (.int (1 : Int32))] [(.int (58 : Int32)), (.int c1)])) (fun t k => ?_) ?_
    · show Steps p.tables e below (s₁.setTop (mkF m 8 #[.val (.ref a), .val (.int p2), .val (.int (1 : Int32))] [(.int c1)])) _
      refine XS.bipush X0.here hx rfl (hb hby d_method_8_8) ?_
      show Steps p.tables e below (s₁.setTop (mkF m 10 #[.val (.ref a), .val (.int p2), .val (.int (1 : Int32))] [(.int (58 : Int32)), (.int c1)])) _
      exact k
    by_cases q : c1 = (58 : Int32)
    · refine own_go (B := s₁.setTop (mkF m 18 #[.val (.ref a), .val (.int p2), .val (.int (1 : Int32))] [(.int (1 : Int32))])) (fun t k => ?_) ?_
      · show Steps p.tables e below (s₁.setTop (mkF m 10 #[.val (.ref a), .val (.int p2), .val (.int (1 : Int32))] [(.int (58 : Int32)), (.int c1)])) _
        refine XS.icmpNo X0.here hx rfl (hb hby d_method_8_10) rfl (teq q).2 ?_
        show Steps p.tables e below (s₁.setTop (mkF m 13 #[.val (.ref a), .val (.int p2), .val (.int (1 : Int32))] [])) _
        refine XS.iconst X0.here hx rfl (hb hby d_method_8_13) ?_
        show Steps p.tables e below (s₁.setTop (mkF m 14 #[.val (.ref a), .val (.int p2), .val (.int (1 : Int32))] [(.int (1 : Int32))])) _
        refine XS.goto X0.here hx rfl (pc0 := 14) (pc' := 18) rfl (hb hby d_method_8_14) (by decide) (by decide) ?_
        show Steps p.tables e below (s₁.setTop (mkF m 18 #[.val (.ref a), .val (.int p2), .val (.int (1 : Int32))] [(.int (1 : Int32))])) _
        exact k
      obtain ⟨fs, hr, hrun, hended, hW, hsame⟩ := X0.leave (v := some (.int (1 : Int32))) (fun h => by rw [Bd.returns] at h; cases h)
      refine ⟨_, _, retN X0 hx (t := .boolean) Bd.returns (by simp) (hb hby d_method_8_18) hr, hfin _ _ ⟨hrun, hended, _, _, rfl, ?_, ⟨_, rfl⟩, hW, hsame.mono (by decide) (by decide)⟩⟩
      show QCo1 Z a kc c0 c1 c2 c3 c4 p2 h0 n0 _ s₁.heap _
      exact ⟨(1 : Int32), rfl, N, e0, (fun _ => rfl), (fun qq_ => absurd (show _ from ⟨i2, q⟩) qq_)⟩
    · refine own_go (B := s₁.setTop (mkF m 18 #[.val (.ref a), .val (.int p2), .val (.int (1 : Int32))] [(.int (0 : Int32))])) (fun t k => ?_) ?_
      · show Steps p.tables e below (s₁.setTop (mkF m 10 #[.val (.ref a), .val (.int p2), .val (.int (1 : Int32))] [(.int (58 : Int32)), (.int c1)])) _
        refine XS.icmpYes X0.here hx rfl (pc0 := 10) (pc' := 17) rfl (hb hby d_method_8_10) rfl (feq q).2 (by decide) (by decide) ?_
        show Steps p.tables e below (s₁.setTop (mkF m 17 #[.val (.ref a), .val (.int p2), .val (.int (1 : Int32))] [])) _
        refine XS.iconst X0.here hx rfl (hb hby d_method_8_17) ?_
        show Steps p.tables e below (s₁.setTop (mkF m 18 #[.val (.ref a), .val (.int p2), .val (.int (1 : Int32))] [(.int (0 : Int32))])) _
        exact k
      obtain ⟨fs, hr, hrun, hended, hW, hsame⟩ := X0.leave (v := some (.int (0 : Int32))) (fun h => by rw [Bd.returns] at h; cases h)
      refine ⟨_, _, retN X0 hx (t := .boolean) Bd.returns (by simp) (hb hby d_method_8_18) hr, hfin _ _ ⟨hrun, hended, _, _, rfl, ?_, ⟨_, rfl⟩, hW, hsame.mono (by decide) (by decide)⟩⟩
      show QCo1 Z a kc c0 c1 c2 c3 c4 p2 h0 n0 _ s₁.heap _
      exact ⟨(0 : Int32), rfl, N, e0, (fun qq_ => absurd qq_ (fun z0 => q z0.2)), (fun _ => rfl)⟩
  · refine own_go (B := s₁.setTop (mkF m 18 #[.val (.ref a), .val (.int p2), .val (.int (1 : Int32))] [(.int (0 : Int32))])) (fun t k => ?_) ?_
    · show Steps p.tables e below (s₁.setTop (mkF m 2 #[.val (.ref a), .val (.int p2), .val (.int (1 : Int32))] [(.int p2), (.int (1 : Int32))])) _
      refine XS.icmpYes X0.here hx rfl (pc0 := 2) (pc' := 17) rfl (hb hby d_method_8_2) rfl (flt i2).2.1 (by decide) (by decide) ?_
      show Steps p.tables e below (s₁.setTop (mkF m 17 #[.val (.ref a), .val (.int p2), .val (.int (1 : Int32))] [])) _
      refine XS.iconst X0.here hx rfl (hb hby d_method_8_17) ?_
      show Steps p.tables e below (s₁.setTop (mkF m 18 #[.val (.ref a), .val (.int p2), .val (.int (1 : Int32))] [(.int (0 : Int32))])) _
      exact k
    obtain ⟨fs, hr, hrun, hended, hW, hsame⟩ := X0.leave (v := some (.int (0 : Int32))) (fun h => by rw [Bd.returns] at h; cases h)
    refine ⟨_, _, retN X0 hx (t := .boolean) Bd.returns (by simp) (hb hby d_method_8_18) hr, hfin _ _ ⟨hrun, hended, _, _, rfl, ?_, ⟨_, rfl⟩, hW, hsame.mono (by decide) (by decide)⟩⟩
    show QCo1 Z a kc c0 c1 c2 c3 c4 p2 h0 n0 _ s₁.heap _
    exact ⟨(0 : Int32), rfl, N, e0, (fun qq_ => absurd qq_ (fun z0 => i2 z0.1)), (fun _ => rfl)⟩
def QCo2 (Z : State) (a : Addr) (kc : ClassId) (c0 : Int32) (c1 : Int32) (c2 : Int32) (c3 : Int32) (c4 : Int32) (p2 : Int32) (h0 : Heap) (n0 : Nat) (v : Option Value) (h : Heap) (L : List Loc) : Prop := ∃ b : Int32, v = some (.int b) ∧ Fr n0 L ∧ h = h0 ∧ (((2 : Int32) < p2 ∧ c2 = (58 : Int32)) → b = (1 : Int32)) ∧ (¬ ((2 : Int32) < p2 ∧ c2 = (58 : Int32)) → b = (0 : Int32))
theorem ef_Co2 (m : MethodId) (a : Addr) (p2 : Int32) : entryFrame m #[(.ref a), (.int p2), (.int (2 : Int32))] 3 = mkF m 0 #[.val (.ref a), .val (.int p2), .val (.int (2 : Int32))] [] := by first | (simp [entryFrame, mkF, argsToLocals, Value.category]; done) | rfl | (rfl)
set_option maxRecDepth 65536 in
set_option maxHeartbeats 40000000 in
theorem rmCo2 (l : Launch) (Z : State) (a0 : Array Value) (hw : ∀ d ∈ tables_1, d.before a0 Z = true) (ws : List Jvm.Cond) (a : Addr) (kc : ClassId) (c0 : Int32) (c1 : Int32) (c2 : Int32) (c3 : Int32) (c4 : Int32) (p2 : Int32) (h0 : Heap) (n0 : Nat) (O : Old Z n0 h0) (V : Arv Z h0 a kc .char (5 : Int32) [(.int c0), (.int c1), (.int c2), (.int c3), (.int c4)] (.int (0 : Int32))) :
    MetFree l (⟨"org/bindery/IriIsAbsolutePinLaw", "colonAt", "([CII)Z"⟩ : MethodName) (head1 (Jvm.Cond.code (⟨"org/bindery/IriIsAbsolutePinLaw", "colonAt", "([CII)Z"⟩ : MethodName) method_8_code 3 (some .boolean) :: ws) ({ frames := 0, cells := 0, slots := 0, locals := 0 } : Room)) (fun as_ U => as_ = #[(.ref a), (.int p2), (.int (2 : Int32))] ∧ Z.Warmed39 U.vm ∧ U.heap = h0) (fun _ _ _ _ _ => True) (fun _ U oo_ U' => ∃ vv_ LL_, oo_ = .returned vv_ ∧ QCo2 Z a kc c0 c1 c2 c3 c4 p2 h0 n0 vv_ U'.heap LL_ ∧ FrameEnd U oo_ U' LL_ ({ frames := 0, cells := 0, slots := 0, locals := 0 } : Room).cells ({ frames := 0, cells := 0, slots := 0, locals := 0 } : Room).slots) := by
  refine MetFree.of_bodySF (plainFor_of_name pn_1) hisR ?_
  intro p e s m args below meth c s₁ Bd hml0 hP hK
  obtain ⟨rfl, hZ, hh⟩ := hP
  have hx := Bd.exec
  have hby := Bd.bytes
  have hml : c.maxLocals = 3 := hml0
  have hown : s.vm.findClass "org/bindery/IriIsAbsolutePinLaw" = some m.cls := findClass_of_methodNamed Bd.named
  have hnm := (name_of_methodNamed Bd.named Bd.method).1
  have X0 : Stand p l e ({ frames := 0, cells := 0, slots := 0, locals := 0 } : Room) s m #[(.ref a), (.int p2), (.int (2 : Int32))] below meth c s₁ [] 0 0 := Stand.of_body Bd
  have e0 : s₁.heap = h0 := by rw [← hh, Bd.state]; rfl
  have N := Fr.nil n0
  have K : Keep h0 h0 [] := Keep.refl h0 _
  refine own_go (B := s₁.setTop (mkF m 0 #[.val (.ref a), .val (.int p2), .val (.int (2 : Int32))] [])) (fun t k => castTop (ef_Co2 m a p2) k) ?_
  refine own_abs (fun P hfin => ?_)
  refine own_go (B := s₁.setTop (mkF m 2 #[.val (.ref a), .val (.int p2), .val (.int (2 : Int32))] [(.int p2), (.int (2 : Int32))])) (fun t k => ?_) ?_
  · show Steps p.tables e below (s₁.setTop (mkF m 0 #[.val (.ref a), .val (.int p2), .val (.int (2 : Int32))] [])) _
    refine XS.iloadN X0.here hx rfl (hb hby d_method_8_0) rfl ?_
    show Steps p.tables e below (s₁.setTop (mkF m 1 #[.val (.ref a), .val (.int p2), .val (.int (2 : Int32))] [(.int (2 : Int32))])) _
    refine XS.iloadN X0.here hx rfl (hb hby d_method_8_1) rfl ?_
    show Steps p.tables e below (s₁.setTop (mkF m 2 #[.val (.ref a), .val (.int p2), .val (.int (2 : Int32))] [(.int p2), (.int (2 : Int32))])) _
    exact k
  by_cases i2 : (2 : Int32) < p2
  · refine own_go (B := s₁.setTop (mkF m 7 #[.val (.ref a), .val (.int p2), .val (.int (2 : Int32))] [(.int (2 : Int32)), (.ref a)])) (fun t k => ?_) ?_
    · show Steps p.tables e below (s₁.setTop (mkF m 2 #[.val (.ref a), .val (.int p2), .val (.int (2 : Int32))] [(.int p2), (.int (2 : Int32))])) _
      refine XS.icmpNo X0.here hx rfl (hb hby d_method_8_2) rfl (tlt i2).2.1 ?_
      show Steps p.tables e below (s₁.setTop (mkF m 5 #[.val (.ref a), .val (.int p2), .val (.int (2 : Int32))] [])) _
      refine XS.aloadN X0.here hx rfl (hb hby d_method_8_5) rfl rfl ?_
      show Steps p.tables e below (s₁.setTop (mkF m 6 #[.val (.ref a), .val (.int p2), .val (.int (2 : Int32))] [(.ref a)])) _
      refine XS.iloadN X0.here hx rfl (hb hby d_method_8_6) rfl ?_
      show Steps p.tables e below (s₁.setTop (mkF m 7 #[.val (.ref a), .val (.int p2), .val (.int (2 : Int32))] [(.int (2 : Int32)), (.ref a)])) _
      exact k
    obtain ⟨cl1, Ar1, q1, Sz1, Nn1, Hs1, Gt1⟩ := V
    have hin1 : ¬ ((2 : Int32) < 0 ∨ cl1.slots.size ≤ ((2 : Int32)).toNatClampNeg) := inb_of Sz1 ⟨by decide, by decide⟩
    have hat1 : cl1.slots[((2 : Int32)).toNatClampNeg]? = some (.int c2) := Hs1.at hin1 rfl
    have st1 := X0.caload hx (j := (2 : Int32)) (v := (.int c2)) (by rw [e0]; exact Ar1.1) (State.isArrayOf_alike hZ.alike Ar1.2.1) Ar1.2.2 hin1 hat1 (g := (mkF m 7 #[.val (.ref a), .val (.int p2), .val (.int (2 : Int32))] [(.int (2 : Int32)), (.ref a)])) rfl rfl (hb hby d_method_8_7)
    have V1 : Arv Z h0 a kc .char (5 : Int32) [(.int c0), (.int c1), (.int c2), (.int c3), (.int c4)] (.int (0 : Int32)) := ⟨cl1, Ar1, q1, Sz1, Nn1, Hs1, Gt1⟩
    refine own_go (B := s₁.setTop (mkF m 8 #[.val (.ref a), .val (.int p2), .val (.int (2 : Int32))] [(.int c2)])) st1 ?_
    refine own_go (B := s₁.setTop (mkF m 10 #[.val (.ref a), .val (.int p2), .val (.int (2 : Int32))] [(.int (58 : Int32)), (.int c2)])) (fun t k => ?_) ?_
    · show Steps p.tables e below (s₁.setTop (mkF m 8 #[.val (.ref a), .val (.int p2), .val (.int (2 : Int32))] [(.int c2)])) _
      refine XS.bipush X0.here hx rfl (hb hby d_method_8_8) ?_
      show Steps p.tables e below (s₁.setTop (mkF m 10 #[.val (.ref a), .val (.int p2), .val (.int (2 : Int32))] [(.int (58 : Int32)), (.int c2)])) _
      exact k
    by_cases q : c2 = (58 : Int32)
    · refine own_go (B := s₁.setTop (mkF m 18 #[.val (.ref a), .val (.int p2), .val (.int (2 : Int32))] [(.int (1 : Int32))])) (fun t k => ?_) ?_
      · show Steps p.tables e below (s₁.setTop (mkF m 10 #[.val (.ref a), .val (.int p2), .val (.int (2 : Int32))] [(.int (58 : Int32)), (.int c2)])) _
        refine XS.icmpNo X0.here hx rfl (hb hby d_method_8_10) rfl (teq q).2 ?_
        show Steps p.tables e below (s₁.setTop (mkF m 13 #[.val (.ref a), .val (.int p2), .val (.int (2 : Int32))] [])) _
        refine XS.iconst X0.here hx rfl (hb hby d_method_8_13) ?_
        show Steps p.tables e below (s₁.setTop (mkF m 14 #[.val (.ref a), .val (.int p2), .val (.int (2 : Int32))] [(.int (1 : Int32))])) _
        refine XS.goto X0.here hx rfl (pc0 := 14) (pc' := 18) rfl (hb hby d_method_8_14) (by decide) (by decide) ?_
        show Steps p.tables e below (s₁.setTop (mkF m 18 #[.val (.ref a), .val (.int p2), .val (.int (2 : Int32))] [(.int (1 : Int32))])) _
        exact k
      obtain ⟨fs, hr, hrun, hended, hW, hsame⟩ := X0.leave (v := some (.int (1 : Int32))) (fun h => by rw [Bd.returns] at h; cases h)
      refine ⟨_, _, retN X0 hx (t := .boolean) Bd.returns (by simp) (hb hby d_method_8_18) hr, hfin _ _ ⟨hrun, hended, _, _, rfl, ?_, ⟨_, rfl⟩, hW, hsame.mono (by decide) (by decide)⟩⟩
      show QCo2 Z a kc c0 c1 c2 c3 c4 p2 h0 n0 _ s₁.heap _
      exact ⟨(1 : Int32), rfl, N, e0, (fun _ => rfl), (fun qq_ => absurd (show _ from ⟨i2, q⟩) qq_)⟩
    · refine own_go (B := s₁.setTop (mkF m 18 #[.val (.ref a), .val (.int p2), .val (.int (2 : Int32))] [(.int (0 : Int32))])) (fun t k => ?_) ?_
      · show Steps p.tables e below (s₁.setTop (mkF m 10 #[.val (.ref a), .val (.int p2), .val (.int (2 : Int32))] [(.int (58 : Int32)), (.int c2)])) _
        refine XS.icmpYes X0.here hx rfl (pc0 := 10) (pc' := 17) rfl (hb hby d_method_8_10) rfl (feq q).2 (by decide) (by decide) ?_
        show Steps p.tables e below (s₁.setTop (mkF m 17 #[.val (.ref a), .val (.int p2), .val (.int (2 : Int32))] [])) _
        refine XS.iconst X0.here hx rfl (hb hby d_method_8_17) ?_
        show Steps p.tables e below (s₁.setTop (mkF m 18 #[.val (.ref a), .val (.int p2), .val (.int (2 : Int32))] [(.int (0 : Int32))])) _
        exact k
      obtain ⟨fs, hr, hrun, hended, hW, hsame⟩ := X0.leave (v := some (.int (0 : Int32))) (fun h => by rw [Bd.returns] at h; cases h)
      refine ⟨_, _, retN X0 hx (t := .boolean) Bd.returns (by simp) (hb hby d_method_8_18) hr, hfin _ _ ⟨hrun, hended, _, _, rfl, ?_, ⟨_, rfl⟩, hW, hsame.mono (by decide) (by decide)⟩⟩
      show QCo2 Z a kc c0 c1 c2 c3 c4 p2 h0 n0 _ s₁.heap _
      exact ⟨(0 : Int32), rfl, N, e0, (fun qq_ => absurd qq_ (fun z0 => q z0.2)), (fun _ => rfl)⟩
  · refine own_go (B := s₁.setTop (mkF m 18 #[.val (.ref a), .val (.int p2), .val (.int (2 : Int32))] [(.int (0 : Int32))])) (fun t k => ?_) ?_
    · show Steps p.tables e below (s₁.setTop (mkF m 2 #[.val (.ref a), .val (.int p2), .val (.int (2 : Int32))] [(.int p2), (.int (2 : Int32))])) _
      refine XS.icmpYes X0.here hx rfl (pc0 := 2) (pc' := 17) rfl (hb hby d_method_8_2) rfl (flt i2).2.1 (by decide) (by decide) ?_
      show Steps p.tables e below (s₁.setTop (mkF m 17 #[.val (.ref a), .val (.int p2), .val (.int (2 : Int32))] [])) _
      refine XS.iconst X0.here hx rfl (hb hby d_method_8_17) ?_
      show Steps p.tables e below (s₁.setTop (mkF m 18 #[.val (.ref a), .val (.int p2), .val (.int (2 : Int32))] [(.int (0 : Int32))])) _
      exact k
    obtain ⟨fs, hr, hrun, hended, hW, hsame⟩ := X0.leave (v := some (.int (0 : Int32))) (fun h => by rw [Bd.returns] at h; cases h)
    refine ⟨_, _, retN X0 hx (t := .boolean) Bd.returns (by simp) (hb hby d_method_8_18) hr, hfin _ _ ⟨hrun, hended, _, _, rfl, ?_, ⟨_, rfl⟩, hW, hsame.mono (by decide) (by decide)⟩⟩
    show QCo2 Z a kc c0 c1 c2 c3 c4 p2 h0 n0 _ s₁.heap _
    exact ⟨(0 : Int32), rfl, N, e0, (fun qq_ => absurd qq_ (fun z0 => i2 z0.1)), (fun _ => rfl)⟩
def QCo3 (Z : State) (a : Addr) (kc : ClassId) (c0 : Int32) (c1 : Int32) (c2 : Int32) (c3 : Int32) (c4 : Int32) (p2 : Int32) (h0 : Heap) (n0 : Nat) (v : Option Value) (h : Heap) (L : List Loc) : Prop := ∃ b : Int32, v = some (.int b) ∧ Fr n0 L ∧ h = h0 ∧ (((3 : Int32) < p2 ∧ c3 = (58 : Int32)) → b = (1 : Int32)) ∧ (¬ ((3 : Int32) < p2 ∧ c3 = (58 : Int32)) → b = (0 : Int32))
theorem ef_Co3 (m : MethodId) (a : Addr) (p2 : Int32) : entryFrame m #[(.ref a), (.int p2), (.int (3 : Int32))] 3 = mkF m 0 #[.val (.ref a), .val (.int p2), .val (.int (3 : Int32))] [] := by first | (simp [entryFrame, mkF, argsToLocals, Value.category]; done) | rfl | (rfl)
set_option maxRecDepth 65536 in
set_option maxHeartbeats 40000000 in
theorem rmCo3 (l : Launch) (Z : State) (a0 : Array Value) (hw : ∀ d ∈ tables_1, d.before a0 Z = true) (ws : List Jvm.Cond) (a : Addr) (kc : ClassId) (c0 : Int32) (c1 : Int32) (c2 : Int32) (c3 : Int32) (c4 : Int32) (p2 : Int32) (h0 : Heap) (n0 : Nat) (O : Old Z n0 h0) (V : Arv Z h0 a kc .char (5 : Int32) [(.int c0), (.int c1), (.int c2), (.int c3), (.int c4)] (.int (0 : Int32))) :
    MetFree l (⟨"org/bindery/IriIsAbsolutePinLaw", "colonAt", "([CII)Z"⟩ : MethodName) (head1 (Jvm.Cond.code (⟨"org/bindery/IriIsAbsolutePinLaw", "colonAt", "([CII)Z"⟩ : MethodName) method_8_code 3 (some .boolean) :: ws) ({ frames := 0, cells := 0, slots := 0, locals := 0 } : Room)) (fun as_ U => as_ = #[(.ref a), (.int p2), (.int (3 : Int32))] ∧ Z.Warmed39 U.vm ∧ U.heap = h0) (fun _ _ _ _ _ => True) (fun _ U oo_ U' => ∃ vv_ LL_, oo_ = .returned vv_ ∧ QCo3 Z a kc c0 c1 c2 c3 c4 p2 h0 n0 vv_ U'.heap LL_ ∧ FrameEnd U oo_ U' LL_ ({ frames := 0, cells := 0, slots := 0, locals := 0 } : Room).cells ({ frames := 0, cells := 0, slots := 0, locals := 0 } : Room).slots) := by
  refine MetFree.of_bodySF (plainFor_of_name pn_1) hisR ?_
  intro p e s m args below meth c s₁ Bd hml0 hP hK
  obtain ⟨rfl, hZ, hh⟩ := hP
  have hx := Bd.exec
  have hby := Bd.bytes
  have hml : c.maxLocals = 3 := hml0
  have hown : s.vm.findClass "org/bindery/IriIsAbsolutePinLaw" = some m.cls := findClass_of_methodNamed Bd.named
  have hnm := (name_of_methodNamed Bd.named Bd.method).1
  have X0 : Stand p l e ({ frames := 0, cells := 0, slots := 0, locals := 0 } : Room) s m #[(.ref a), (.int p2), (.int (3 : Int32))] below meth c s₁ [] 0 0 := Stand.of_body Bd
  have e0 : s₁.heap = h0 := by rw [← hh, Bd.state]; rfl
  have N := Fr.nil n0
  have K : Keep h0 h0 [] := Keep.refl h0 _
  refine own_go (B := s₁.setTop (mkF m 0 #[.val (.ref a), .val (.int p2), .val (.int (3 : Int32))] [])) (fun t k => castTop (ef_Co3 m a p2) k) ?_
  refine own_abs (fun P hfin => ?_)
  refine own_go (B := s₁.setTop (mkF m 2 #[.val (.ref a), .val (.int p2), .val (.int (3 : Int32))] [(.int p2), (.int (3 : Int32))])) (fun t k => ?_) ?_
  · show Steps p.tables e below (s₁.setTop (mkF m 0 #[.val (.ref a), .val (.int p2), .val (.int (3 : Int32))] [])) _
    refine XS.iloadN X0.here hx rfl (hb hby d_method_8_0) rfl ?_
    show Steps p.tables e below (s₁.setTop (mkF m 1 #[.val (.ref a), .val (.int p2), .val (.int (3 : Int32))] [(.int (3 : Int32))])) _
    refine XS.iloadN X0.here hx rfl (hb hby d_method_8_1) rfl ?_
    show Steps p.tables e below (s₁.setTop (mkF m 2 #[.val (.ref a), .val (.int p2), .val (.int (3 : Int32))] [(.int p2), (.int (3 : Int32))])) _
    exact k
  by_cases i2 : (3 : Int32) < p2
  · refine own_go (B := s₁.setTop (mkF m 7 #[.val (.ref a), .val (.int p2), .val (.int (3 : Int32))] [(.int (3 : Int32)), (.ref a)])) (fun t k => ?_) ?_
    · show Steps p.tables e below (s₁.setTop (mkF m 2 #[.val (.ref a), .val (.int p2), .val (.int (3 : Int32))] [(.int p2), (.int (3 : Int32))])) _
      refine XS.icmpNo X0.here hx rfl (hb hby d_method_8_2) rfl (tlt i2).2.1 ?_
      show Steps p.tables e below (s₁.setTop (mkF m 5 #[.val (.ref a), .val (.int p2), .val (.int (3 : Int32))] [])) _
      refine XS.aloadN X0.here hx rfl (hb hby d_method_8_5) rfl rfl ?_
      show Steps p.tables e below (s₁.setTop (mkF m 6 #[.val (.ref a), .val (.int p2), .val (.int (3 : Int32))] [(.ref a)])) _
      refine XS.iloadN X0.here hx rfl (hb hby d_method_8_6) rfl ?_
      show Steps p.tables e below (s₁.setTop (mkF m 7 #[.val (.ref a), .val (.int p2), .val (.int (3 : Int32))] [(.int (3 : Int32)), (.ref a)])) _
      exact k
    obtain ⟨cl1, Ar1, q1, Sz1, Nn1, Hs1, Gt1⟩ := V
    have hin1 : ¬ ((3 : Int32) < 0 ∨ cl1.slots.size ≤ ((3 : Int32)).toNatClampNeg) := inb_of Sz1 ⟨by decide, by decide⟩
    have hat1 : cl1.slots[((3 : Int32)).toNatClampNeg]? = some (.int c3) := Hs1.at hin1 rfl
    have st1 := X0.caload hx (j := (3 : Int32)) (v := (.int c3)) (by rw [e0]; exact Ar1.1) (State.isArrayOf_alike hZ.alike Ar1.2.1) Ar1.2.2 hin1 hat1 (g := (mkF m 7 #[.val (.ref a), .val (.int p2), .val (.int (3 : Int32))] [(.int (3 : Int32)), (.ref a)])) rfl rfl (hb hby d_method_8_7)
    have V1 : Arv Z h0 a kc .char (5 : Int32) [(.int c0), (.int c1), (.int c2), (.int c3), (.int c4)] (.int (0 : Int32)) := ⟨cl1, Ar1, q1, Sz1, Nn1, Hs1, Gt1⟩
    refine own_go (B := s₁.setTop (mkF m 8 #[.val (.ref a), .val (.int p2), .val (.int (3 : Int32))] [(.int c3)])) st1 ?_
    refine own_go (B := s₁.setTop (mkF m 10 #[.val (.ref a), .val (.int p2), .val (.int (3 : Int32))] [(.int (58 : Int32)), (.int c3)])) (fun t k => ?_) ?_
    · show Steps p.tables e below (s₁.setTop (mkF m 8 #[.val (.ref a), .val (.int p2), .val (.int (3 : Int32))] [(.int c3)])) _
      refine XS.bipush X0.here hx rfl (hb hby d_method_8_8) ?_
      show Steps p.tables e below (s₁.setTop (mkF m 10 #[.val (.ref a), .val (.int p2), .val (.int (3 : Int32))] [(.int (58 : Int32)), (.int c3)])) _
      exact k
    by_cases q : c3 = (58 : Int32)
    · refine own_go (B := s₁.setTop (mkF m 18 #[.val (.ref a), .val (.int p2), .val (.int (3 : Int32))] [(.int (1 : Int32))])) (fun t k => ?_) ?_
      · show Steps p.tables e below (s₁.setTop (mkF m 10 #[.val (.ref a), .val (.int p2), .val (.int (3 : Int32))] [(.int (58 : Int32)), (.int c3)])) _
        refine XS.icmpNo X0.here hx rfl (hb hby d_method_8_10) rfl (teq q).2 ?_
        show Steps p.tables e below (s₁.setTop (mkF m 13 #[.val (.ref a), .val (.int p2), .val (.int (3 : Int32))] [])) _
        refine XS.iconst X0.here hx rfl (hb hby d_method_8_13) ?_
        show Steps p.tables e below (s₁.setTop (mkF m 14 #[.val (.ref a), .val (.int p2), .val (.int (3 : Int32))] [(.int (1 : Int32))])) _
        refine XS.goto X0.here hx rfl (pc0 := 14) (pc' := 18) rfl (hb hby d_method_8_14) (by decide) (by decide) ?_
        show Steps p.tables e below (s₁.setTop (mkF m 18 #[.val (.ref a), .val (.int p2), .val (.int (3 : Int32))] [(.int (1 : Int32))])) _
        exact k
      obtain ⟨fs, hr, hrun, hended, hW, hsame⟩ := X0.leave (v := some (.int (1 : Int32))) (fun h => by rw [Bd.returns] at h; cases h)
      refine ⟨_, _, retN X0 hx (t := .boolean) Bd.returns (by simp) (hb hby d_method_8_18) hr, hfin _ _ ⟨hrun, hended, _, _, rfl, ?_, ⟨_, rfl⟩, hW, hsame.mono (by decide) (by decide)⟩⟩
      show QCo3 Z a kc c0 c1 c2 c3 c4 p2 h0 n0 _ s₁.heap _
      exact ⟨(1 : Int32), rfl, N, e0, (fun _ => rfl), (fun qq_ => absurd (show _ from ⟨i2, q⟩) qq_)⟩
    · refine own_go (B := s₁.setTop (mkF m 18 #[.val (.ref a), .val (.int p2), .val (.int (3 : Int32))] [(.int (0 : Int32))])) (fun t k => ?_) ?_
      · show Steps p.tables e below (s₁.setTop (mkF m 10 #[.val (.ref a), .val (.int p2), .val (.int (3 : Int32))] [(.int (58 : Int32)), (.int c3)])) _
        refine XS.icmpYes X0.here hx rfl (pc0 := 10) (pc' := 17) rfl (hb hby d_method_8_10) rfl (feq q).2 (by decide) (by decide) ?_
        show Steps p.tables e below (s₁.setTop (mkF m 17 #[.val (.ref a), .val (.int p2), .val (.int (3 : Int32))] [])) _
        refine XS.iconst X0.here hx rfl (hb hby d_method_8_17) ?_
        show Steps p.tables e below (s₁.setTop (mkF m 18 #[.val (.ref a), .val (.int p2), .val (.int (3 : Int32))] [(.int (0 : Int32))])) _
        exact k
      obtain ⟨fs, hr, hrun, hended, hW, hsame⟩ := X0.leave (v := some (.int (0 : Int32))) (fun h => by rw [Bd.returns] at h; cases h)
      refine ⟨_, _, retN X0 hx (t := .boolean) Bd.returns (by simp) (hb hby d_method_8_18) hr, hfin _ _ ⟨hrun, hended, _, _, rfl, ?_, ⟨_, rfl⟩, hW, hsame.mono (by decide) (by decide)⟩⟩
      show QCo3 Z a kc c0 c1 c2 c3 c4 p2 h0 n0 _ s₁.heap _
      exact ⟨(0 : Int32), rfl, N, e0, (fun qq_ => absurd qq_ (fun z0 => q z0.2)), (fun _ => rfl)⟩
  · refine own_go (B := s₁.setTop (mkF m 18 #[.val (.ref a), .val (.int p2), .val (.int (3 : Int32))] [(.int (0 : Int32))])) (fun t k => ?_) ?_
    · show Steps p.tables e below (s₁.setTop (mkF m 2 #[.val (.ref a), .val (.int p2), .val (.int (3 : Int32))] [(.int p2), (.int (3 : Int32))])) _
      refine XS.icmpYes X0.here hx rfl (pc0 := 2) (pc' := 17) rfl (hb hby d_method_8_2) rfl (flt i2).2.1 (by decide) (by decide) ?_
      show Steps p.tables e below (s₁.setTop (mkF m 17 #[.val (.ref a), .val (.int p2), .val (.int (3 : Int32))] [])) _
      refine XS.iconst X0.here hx rfl (hb hby d_method_8_17) ?_
      show Steps p.tables e below (s₁.setTop (mkF m 18 #[.val (.ref a), .val (.int p2), .val (.int (3 : Int32))] [(.int (0 : Int32))])) _
      exact k
    obtain ⟨fs, hr, hrun, hended, hW, hsame⟩ := X0.leave (v := some (.int (0 : Int32))) (fun h => by rw [Bd.returns] at h; cases h)
    refine ⟨_, _, retN X0 hx (t := .boolean) Bd.returns (by simp) (hb hby d_method_8_18) hr, hfin _ _ ⟨hrun, hended, _, _, rfl, ?_, ⟨_, rfl⟩, hW, hsame.mono (by decide) (by decide)⟩⟩
    show QCo3 Z a kc c0 c1 c2 c3 c4 p2 h0 n0 _ s₁.heap _
    exact ⟨(0 : Int32), rfl, N, e0, (fun qq_ => absurd qq_ (fun z0 => i2 z0.1)), (fun _ => rfl)⟩
def QCo4 (Z : State) (a : Addr) (kc : ClassId) (c0 : Int32) (c1 : Int32) (c2 : Int32) (c3 : Int32) (c4 : Int32) (p2 : Int32) (h0 : Heap) (n0 : Nat) (v : Option Value) (h : Heap) (L : List Loc) : Prop := ∃ b : Int32, v = some (.int b) ∧ Fr n0 L ∧ h = h0 ∧ (((4 : Int32) < p2 ∧ c4 = (58 : Int32)) → b = (1 : Int32)) ∧ (¬ ((4 : Int32) < p2 ∧ c4 = (58 : Int32)) → b = (0 : Int32))
theorem ef_Co4 (m : MethodId) (a : Addr) (p2 : Int32) : entryFrame m #[(.ref a), (.int p2), (.int (4 : Int32))] 3 = mkF m 0 #[.val (.ref a), .val (.int p2), .val (.int (4 : Int32))] [] := by first | (simp [entryFrame, mkF, argsToLocals, Value.category]; done) | rfl | (rfl)
set_option maxRecDepth 65536 in
set_option maxHeartbeats 40000000 in
theorem rmCo4 (l : Launch) (Z : State) (a0 : Array Value) (hw : ∀ d ∈ tables_1, d.before a0 Z = true) (ws : List Jvm.Cond) (a : Addr) (kc : ClassId) (c0 : Int32) (c1 : Int32) (c2 : Int32) (c3 : Int32) (c4 : Int32) (p2 : Int32) (h0 : Heap) (n0 : Nat) (O : Old Z n0 h0) (V : Arv Z h0 a kc .char (5 : Int32) [(.int c0), (.int c1), (.int c2), (.int c3), (.int c4)] (.int (0 : Int32))) :
    MetFree l (⟨"org/bindery/IriIsAbsolutePinLaw", "colonAt", "([CII)Z"⟩ : MethodName) (head1 (Jvm.Cond.code (⟨"org/bindery/IriIsAbsolutePinLaw", "colonAt", "([CII)Z"⟩ : MethodName) method_8_code 3 (some .boolean) :: ws) ({ frames := 0, cells := 0, slots := 0, locals := 0 } : Room)) (fun as_ U => as_ = #[(.ref a), (.int p2), (.int (4 : Int32))] ∧ Z.Warmed39 U.vm ∧ U.heap = h0) (fun _ _ _ _ _ => True) (fun _ U oo_ U' => ∃ vv_ LL_, oo_ = .returned vv_ ∧ QCo4 Z a kc c0 c1 c2 c3 c4 p2 h0 n0 vv_ U'.heap LL_ ∧ FrameEnd U oo_ U' LL_ ({ frames := 0, cells := 0, slots := 0, locals := 0 } : Room).cells ({ frames := 0, cells := 0, slots := 0, locals := 0 } : Room).slots) := by
  refine MetFree.of_bodySF (plainFor_of_name pn_1) hisR ?_
  intro p e s m args below meth c s₁ Bd hml0 hP hK
  obtain ⟨rfl, hZ, hh⟩ := hP
  have hx := Bd.exec
  have hby := Bd.bytes
  have hml : c.maxLocals = 3 := hml0
  have hown : s.vm.findClass "org/bindery/IriIsAbsolutePinLaw" = some m.cls := findClass_of_methodNamed Bd.named
  have hnm := (name_of_methodNamed Bd.named Bd.method).1
  have X0 : Stand p l e ({ frames := 0, cells := 0, slots := 0, locals := 0 } : Room) s m #[(.ref a), (.int p2), (.int (4 : Int32))] below meth c s₁ [] 0 0 := Stand.of_body Bd
  have e0 : s₁.heap = h0 := by rw [← hh, Bd.state]; rfl
  have N := Fr.nil n0
  have K : Keep h0 h0 [] := Keep.refl h0 _
  refine own_go (B := s₁.setTop (mkF m 0 #[.val (.ref a), .val (.int p2), .val (.int (4 : Int32))] [])) (fun t k => castTop (ef_Co4 m a p2) k) ?_
  refine own_abs (fun P hfin => ?_)
  refine own_go (B := s₁.setTop (mkF m 2 #[.val (.ref a), .val (.int p2), .val (.int (4 : Int32))] [(.int p2), (.int (4 : Int32))])) (fun t k => ?_) ?_
  · show Steps p.tables e below (s₁.setTop (mkF m 0 #[.val (.ref a), .val (.int p2), .val (.int (4 : Int32))] [])) _
    refine XS.iloadN X0.here hx rfl (hb hby d_method_8_0) rfl ?_
    show Steps p.tables e below (s₁.setTop (mkF m 1 #[.val (.ref a), .val (.int p2), .val (.int (4 : Int32))] [(.int (4 : Int32))])) _
    refine XS.iloadN X0.here hx rfl (hb hby d_method_8_1) rfl ?_
    show Steps p.tables e below (s₁.setTop (mkF m 2 #[.val (.ref a), .val (.int p2), .val (.int (4 : Int32))] [(.int p2), (.int (4 : Int32))])) _
    exact k
  by_cases i2 : (4 : Int32) < p2
  · refine own_go (B := s₁.setTop (mkF m 7 #[.val (.ref a), .val (.int p2), .val (.int (4 : Int32))] [(.int (4 : Int32)), (.ref a)])) (fun t k => ?_) ?_
    · show Steps p.tables e below (s₁.setTop (mkF m 2 #[.val (.ref a), .val (.int p2), .val (.int (4 : Int32))] [(.int p2), (.int (4 : Int32))])) _
      refine XS.icmpNo X0.here hx rfl (hb hby d_method_8_2) rfl (tlt i2).2.1 ?_
      show Steps p.tables e below (s₁.setTop (mkF m 5 #[.val (.ref a), .val (.int p2), .val (.int (4 : Int32))] [])) _
      refine XS.aloadN X0.here hx rfl (hb hby d_method_8_5) rfl rfl ?_
      show Steps p.tables e below (s₁.setTop (mkF m 6 #[.val (.ref a), .val (.int p2), .val (.int (4 : Int32))] [(.ref a)])) _
      refine XS.iloadN X0.here hx rfl (hb hby d_method_8_6) rfl ?_
      show Steps p.tables e below (s₁.setTop (mkF m 7 #[.val (.ref a), .val (.int p2), .val (.int (4 : Int32))] [(.int (4 : Int32)), (.ref a)])) _
      exact k
    obtain ⟨cl1, Ar1, q1, Sz1, Nn1, Hs1, Gt1⟩ := V
    have hin1 : ¬ ((4 : Int32) < 0 ∨ cl1.slots.size ≤ ((4 : Int32)).toNatClampNeg) := inb_of Sz1 ⟨by decide, by decide⟩
    have hat1 : cl1.slots[((4 : Int32)).toNatClampNeg]? = some (.int c4) := Hs1.at hin1 rfl
    have st1 := X0.caload hx (j := (4 : Int32)) (v := (.int c4)) (by rw [e0]; exact Ar1.1) (State.isArrayOf_alike hZ.alike Ar1.2.1) Ar1.2.2 hin1 hat1 (g := (mkF m 7 #[.val (.ref a), .val (.int p2), .val (.int (4 : Int32))] [(.int (4 : Int32)), (.ref a)])) rfl rfl (hb hby d_method_8_7)
    have V1 : Arv Z h0 a kc .char (5 : Int32) [(.int c0), (.int c1), (.int c2), (.int c3), (.int c4)] (.int (0 : Int32)) := ⟨cl1, Ar1, q1, Sz1, Nn1, Hs1, Gt1⟩
    refine own_go (B := s₁.setTop (mkF m 8 #[.val (.ref a), .val (.int p2), .val (.int (4 : Int32))] [(.int c4)])) st1 ?_
    refine own_go (B := s₁.setTop (mkF m 10 #[.val (.ref a), .val (.int p2), .val (.int (4 : Int32))] [(.int (58 : Int32)), (.int c4)])) (fun t k => ?_) ?_
    · show Steps p.tables e below (s₁.setTop (mkF m 8 #[.val (.ref a), .val (.int p2), .val (.int (4 : Int32))] [(.int c4)])) _
      refine XS.bipush X0.here hx rfl (hb hby d_method_8_8) ?_
      show Steps p.tables e below (s₁.setTop (mkF m 10 #[.val (.ref a), .val (.int p2), .val (.int (4 : Int32))] [(.int (58 : Int32)), (.int c4)])) _
      exact k
    by_cases q : c4 = (58 : Int32)
    · refine own_go (B := s₁.setTop (mkF m 18 #[.val (.ref a), .val (.int p2), .val (.int (4 : Int32))] [(.int (1 : Int32))])) (fun t k => ?_) ?_
      · show Steps p.tables e below (s₁.setTop (mkF m 10 #[.val (.ref a), .val (.int p2), .val (.int (4 : Int32))] [(.int (58 : Int32)), (.int c4)])) _
        refine XS.icmpNo X0.here hx rfl (hb hby d_method_8_10) rfl (teq q).2 ?_
        show Steps p.tables e below (s₁.setTop (mkF m 13 #[.val (.ref a), .val (.int p2), .val (.int (4 : Int32))] [])) _
        refine XS.iconst X0.here hx rfl (hb hby d_method_8_13) ?_
        show Steps p.tables e below (s₁.setTop (mkF m 14 #[.val (.ref a), .val (.int p2), .val (.int (4 : Int32))] [(.int (1 : Int32))])) _
        refine XS.goto X0.here hx rfl (pc0 := 14) (pc' := 18) rfl (hb hby d_method_8_14) (by decide) (by decide) ?_
        show Steps p.tables e below (s₁.setTop (mkF m 18 #[.val (.ref a), .val (.int p2), .val (.int (4 : Int32))] [(.int (1 : Int32))])) _
        exact k
      obtain ⟨fs, hr, hrun, hended, hW, hsame⟩ := X0.leave (v := some (.int (1 : Int32))) (fun h => by rw [Bd.returns] at h; cases h)
      refine ⟨_, _, retN X0 hx (t := .boolean) Bd.returns (by simp) (hb hby d_method_8_18) hr, hfin _ _ ⟨hrun, hended, _, _, rfl, ?_, ⟨_, rfl⟩, hW, hsame.mono (by decide) (by decide)⟩⟩
      show QCo4 Z a kc c0 c1 c2 c3 c4 p2 h0 n0 _ s₁.heap _
      exact ⟨(1 : Int32), rfl, N, e0, (fun _ => rfl), (fun qq_ => absurd (show _ from ⟨i2, q⟩) qq_)⟩
    · refine own_go (B := s₁.setTop (mkF m 18 #[.val (.ref a), .val (.int p2), .val (.int (4 : Int32))] [(.int (0 : Int32))])) (fun t k => ?_) ?_
      · show Steps p.tables e below (s₁.setTop (mkF m 10 #[.val (.ref a), .val (.int p2), .val (.int (4 : Int32))] [(.int (58 : Int32)), (.int c4)])) _
        refine XS.icmpYes X0.here hx rfl (pc0 := 10) (pc' := 17) rfl (hb hby d_method_8_10) rfl (feq q).2 (by decide) (by decide) ?_
        show Steps p.tables e below (s₁.setTop (mkF m 17 #[.val (.ref a), .val (.int p2), .val (.int (4 : Int32))] [])) _
        refine XS.iconst X0.here hx rfl (hb hby d_method_8_17) ?_
        show Steps p.tables e below (s₁.setTop (mkF m 18 #[.val (.ref a), .val (.int p2), .val (.int (4 : Int32))] [(.int (0 : Int32))])) _
        exact k
      obtain ⟨fs, hr, hrun, hended, hW, hsame⟩ := X0.leave (v := some (.int (0 : Int32))) (fun h => by rw [Bd.returns] at h; cases h)
      refine ⟨_, _, retN X0 hx (t := .boolean) Bd.returns (by simp) (hb hby d_method_8_18) hr, hfin _ _ ⟨hrun, hended, _, _, rfl, ?_, ⟨_, rfl⟩, hW, hsame.mono (by decide) (by decide)⟩⟩
      show QCo4 Z a kc c0 c1 c2 c3 c4 p2 h0 n0 _ s₁.heap _
      exact ⟨(0 : Int32), rfl, N, e0, (fun qq_ => absurd qq_ (fun z0 => q z0.2)), (fun _ => rfl)⟩
  · refine own_go (B := s₁.setTop (mkF m 18 #[.val (.ref a), .val (.int p2), .val (.int (4 : Int32))] [(.int (0 : Int32))])) (fun t k => ?_) ?_
    · show Steps p.tables e below (s₁.setTop (mkF m 2 #[.val (.ref a), .val (.int p2), .val (.int (4 : Int32))] [(.int p2), (.int (4 : Int32))])) _
      refine XS.icmpYes X0.here hx rfl (pc0 := 2) (pc' := 17) rfl (hb hby d_method_8_2) rfl (flt i2).2.1 (by decide) (by decide) ?_
      show Steps p.tables e below (s₁.setTop (mkF m 17 #[.val (.ref a), .val (.int p2), .val (.int (4 : Int32))] [])) _
      refine XS.iconst X0.here hx rfl (hb hby d_method_8_17) ?_
      show Steps p.tables e below (s₁.setTop (mkF m 18 #[.val (.ref a), .val (.int p2), .val (.int (4 : Int32))] [(.int (0 : Int32))])) _
      exact k
    obtain ⟨fs, hr, hrun, hended, hW, hsame⟩ := X0.leave (v := some (.int (0 : Int32))) (fun h => by rw [Bd.returns] at h; cases h)
    refine ⟨_, _, retN X0 hx (t := .boolean) Bd.returns (by simp) (hb hby d_method_8_18) hr, hfin _ _ ⟨hrun, hended, _, _, rfl, ?_, ⟨_, rfl⟩, hW, hsame.mono (by decide) (by decide)⟩⟩
    show QCo4 Z a kc c0 c1 c2 c3 c4 p2 h0 n0 _ s₁.heap _
    exact ⟨(0 : Int32), rfl, N, e0, (fun qq_ => absurd qq_ (fun z0 => i2 z0.1)), (fun _ => rfl)⟩
def QTake (Z : State) (a : Addr) (kc : ClassId) (c0 : Int32) (c1 : Int32) (c2 : Int32) (c3 : Int32) (c4 : Int32) (p2 : Int32) (zc : Int32) (h0 : Heap) (n0 : Nat) (v : Option Value) (h : Heap) (L : List Loc) : Prop := ∃ r : Addr, ∃ t : Addr, ∃ k : ClassId, ∃ cs : List Int32, v = some (.ref r) ∧ Fr n0 L ∧ Keep h0 h [] ∧ h0.size ≤ r ∧ Exa Z h r "java/lang/String" ∧ Fld Z h r "java/lang/String" "coder" "B" (.int (0 : Int32)) ∧ Fld Z h r "java/lang/String" "value" "[B" (.ref t) ∧ Arv Z h t k .byte (Int32.ofNat cs.length) (own_bs cs) (.int (0 : Int32)) ∧ (cs = own_take p2 c0 c1 c2 c3 c4) ∧ (∀ c ∈ cs, ¬ c < 0 ∧ ¬ (255 : Int32) < c) ∧ (cs.length ≤ 4000)
theorem ef_Take (m : MethodId) (a : Addr) (p2 : Int32) : entryFrame m #[(.ref a), (.int p2)] 2 = mkF m 0 #[.val (.ref a), .val (.int p2)] [] := by first | (simp [entryFrame, mkF, argsToLocals, Value.category]; done) | rfl | (rfl)
set_option maxRecDepth 65536 in
set_option maxHeartbeats 40000000 in
theorem rmTake (l : Launch) (Z : State) (a0 : Array Value) (hw : ∀ d ∈ tables_1, d.before a0 Z = true) (ws : List Jvm.Cond) (a : Addr) (kc : ClassId) (c0 : Int32) (c1 : Int32) (c2 : Int32) (c3 : Int32) (c4 : Int32) (p2 : Int32) (zc : Int32) (h0 : Heap) (n0 : Nat) (O : Old Z n0 h0) (V : Arv Z h0 a kc .char (5 : Int32) [(.int c0), (.int c1), (.int c2), (.int c3), (.int c4)] (.int (0 : Int32))) (S_C : Sta Z Z.heap "java/lang/String" "COMPACT_STRINGS" "Z" (.int zc)) (hcs : ¬ zc = (0 : Int32)) (hcH : Jvm.Lit.constHeld Z "java/lang/String" 7) (hcw : Jvm.Lit.compactW.before a0 Z = true) (hc0 : ¬ c0 < 0 ∧ ¬ (255 : Int32) < c0) (hc1 : ¬ c1 < 0 ∧ ¬ (255 : Int32) < c1) (hc2 : ¬ c2 < 0 ∧ ¬ (255 : Int32) < c2) (hc3 : ¬ c3 < 0 ∧ ¬ (255 : Int32) < c3) (hc4 : ¬ c4 < 0 ∧ ¬ (255 : Int32) < c4) :
    MetFree l (⟨"org/bindery/IriIsAbsolutePinLaw", "take", "([CI)Ljava/lang/String;"⟩ : MethodName) (head1 (Jvm.Cond.code (⟨"org/bindery/IriIsAbsolutePinLaw", "take", "([CI)Ljava/lang/String;"⟩ : MethodName) method_3_code 2 (some (.object "java/lang/String")) :: ws) ({ frames := 4, cells := 4, slots := 14, locals := 66 } : Room)) (fun as_ U => as_ = #[(.ref a), (.int p2)] ∧ Z.Warmed39 U.vm ∧ U.heap = h0 ∧ Em Z U.vm h0) (fun _ _ _ _ _ => True) (fun _ U oo_ U' => ∃ vv_ LL_, oo_ = .returned vv_ ∧ QTake Z a kc c0 c1 c2 c3 c4 p2 zc h0 n0 vv_ U'.heap LL_ ∧ ReturnedEndW U oo_ U' LL_ ({ frames := 4, cells := 4, slots := 14, locals := 66 } : Room).cells ({ frames := 4, cells := 4, slots := 14, locals := 66 } : Room).slots ∧ Em Z U'.vm U'.heap) := by
  refine MetFree.of_bodySF (plainFor_of_name pn_1) hisR ?_
  intro p e s m args below meth c s₁ Bd hml0 hP hK
  obtain ⟨rfl, hZ, hh, M⟩ := hP
  have hx := Bd.exec
  have hby := Bd.bytes
  have hml : c.maxLocals = 2 := hml0
  have hown : s.vm.findClass "org/bindery/IriIsAbsolutePinLaw" = some m.cls := findClass_of_methodNamed Bd.named
  have hnm := (name_of_methodNamed Bd.named Bd.method).1
  have X0 : Stand p l e ({ frames := 4, cells := 4, slots := 14, locals := 66 } : Room) (s.setVm s.vm) m #[(.ref a), (.int p2)] below meth c s₁ [] 0 0 := Stand.of_body Bd
  have e0 : s₁.heap = h0 := by rw [← hh, Bd.state]; rfl
  have N := Fr.nil n0
  have hown : (s.setVm s.vm).vm.findClass "org/bindery/IriIsAbsolutePinLaw" = some m.cls := hown
  have hZ : Z.Warmed39 (s.setVm s.vm).vm := hZ
  have hS : s.Since s.vm h0.size := (State.WarmedH.refl s).since _
  have hk : h0.size ≤ h0.size := Nat.le_refl _
  have K : Keep h0 h0 [] := Keep.refl h0 _
  refine own_go (B := s₁.setTop (mkF m 0 #[.val (.ref a), .val (.int p2)] [])) (fun t k => castTop (ef_Take m a p2) k) ?_
  have KM : Keep h0 h0 [] := Keep.refl h0 _
  refine own_abs (fun P hfin => ?_)
  have cc0 : nar .char c0 = c0 := own_i2c hc0
  have cc1 : nar .char c1 = c1 := own_i2c hc1
  have cc2 : nar .char c2 = c2 := own_i2c hc2
  have cc3 : nar .char c3 = c3 := own_i2c hc3
  have cc4 : nar .char c4 = c4 := own_i2c hc4
  refine own_go (B := s₁.setTop (mkF m 1 #[.val (.ref a), .val (.int p2)] [(.int p2)])) (fun t k => ?_) ?_
  · show Steps p.tables e below (s₁.setTop (mkF m 0 #[.val (.ref a), .val (.int p2)] [])) _
    refine XS.iloadN X0.here hx rfl (hb hby d_method_3_0) rfl ?_
    show Steps p.tables e below (s₁.setTop (mkF m 1 #[.val (.ref a), .val (.int p2)] [(.int p2)])) _
    exact k
  by_cases t0 : p2 = (0 : Int32)
  · refine own_go (B := s₁.setTop (mkF m 4 #[.val (.ref a), .val (.int p2)] [])) (fun t k => ?_) ?_
    · show Steps p.tables e below (s₁.setTop (mkF m 1 #[.val (.ref a), .val (.int p2)] [(.int p2)])) _
      refine XS.ifNo X0.here hx rfl (hb hby d_method_3_1) rfl ((if0 _ _).trans (teq t0).2) ?_
      show Steps p.tables e below (s₁.setTop (mkF m 4 #[.val (.ref a), .val (.int p2)] [])) _
      exact k
    obtain ⟨T1, h1, X1, e1, E1, A1, D1, -, st1⟩ := newO X0 hx hZ hown (hw _ (List.mem_of_getElem? (i := 6) rfl)) (hw _ (List.mem_of_getElem? (i := 7) rfl)) (hw _ (List.mem_of_getElem? (i := 8) rfl)) e0 (g := (mkF m 4 #[.val (.ref a), .val (.int p2)] [])) rfl (hb hby d_method_3_4) (by decide) (by decide)
    obtain ⟨b1, g1⟩ : ∃ z, z = h0.size := ⟨_, rfl⟩
    rw [← g1] at A1 D1 st1
    have lt_a_b1 : a < b1 := Nat.lt_of_lt_of_le V.lt (Nat.le_of_eq g1.symm)
    have g_b1 : n0 ≤ b1 := Nat.le_trans (own_oldsz O) (Nat.le_of_eq g1.symm)
    have m_b1_1 : h0.size ≤ b1 := Nat.le_trans KM.1 (Nat.le_of_eq g1.symm)
    have s_b1 : h0.size ≤ b1 := Nat.le_trans K.1 (Nat.le_of_eq g1.symm)
    replace V := V.ext E1
    replace O := O.ext E1
    replace hk := Nat.le_trans hk E1.1
    replace KM := KM.ext E1
    replace K := K.ext E1
    have F1_value : Fld Z h1 b1 "java/lang/String" "value" "[B" .null := D1 (Or.inr (hw _ (List.mem_of_getElem? (i := 21) rfl))) (ty := (.array .byte)) (by decide)
    have F1_coder : Fld Z h1 b1 "java/lang/String" "coder" "B" (.int (0 : Int32)) := D1 (Or.inr (hw _ (List.mem_of_getElem? (i := 22) rfl))) (ty := .byte) (by decide)
    refine own_go (B := T1.setTop (mkF m 7 #[.val (.ref a), .val (.int p2)] [(.ref b1)])) st1 ?_
    refine own_go (B := T1.setTop (mkF m 9 #[.val (.ref a), .val (.int p2)] [(.int (0 : Int32)), (.ref b1), (.ref b1)])) (fun t k => ?_) ?_
    · show Steps p.tables e below (T1.setTop (mkF m 7 #[.val (.ref a), .val (.int p2)] [(.ref b1)])) _
      refine XS.dup X1.here hx rfl (hb hby d_method_3_7) rfl rfl ?_
      show Steps p.tables e below (T1.setTop (mkF m 8 #[.val (.ref a), .val (.int p2)] [(.ref b1), (.ref b1)])) _
      refine XS.iconst X1.here hx rfl (hb hby d_method_3_8) ?_
      show Steps p.tables e below (T1.setTop (mkF m 9 #[.val (.ref a), .val (.int p2)] [(.int (0 : Int32)), (.ref b1), (.ref b1)])) _
      exact k
    obtain ⟨T2, h2, k2, X2, e2, E2, A2, G2, st2⟩ := newPE X1 hx hZ (hw _ (List.mem_of_getElem? (i := 1) rfl)) e1 (g := (mkF m 9 #[.val (.ref a), .val (.int p2)] [(.int (0 : Int32)), (.ref b1), (.ref b1)])) rfl (hb hby d_method_3_9) rfl (by decide) (cap := 0) (by decide) (by decide) (by decide) (by decide) (ad := "[C") (by decide)
    obtain ⟨b2, g2⟩ : ∃ z, z = h1.size := ⟨_, rfl⟩
    rw [← g2] at A2 G2 st2
    have lt_a_b2 : a < b2 := Nat.lt_of_lt_of_le V.lt (Nat.le_of_eq g2.symm)
    have lt_b1_b2 : b1 < b2 := Nat.lt_of_lt_of_le A1.lt (Nat.le_of_eq g2.symm)
    have g_b2 : n0 ≤ b2 := Nat.le_trans (own_oldsz O) (Nat.le_of_eq g2.symm)
    have m_b2_2 : h0.size ≤ b2 := Nat.le_trans KM.1 (Nat.le_of_eq g2.symm)
    have s_b2 : h0.size ≤ b2 := Nat.le_trans K.1 (Nat.le_of_eq g2.symm)
    replace V := V.ext E2
    replace A1 := A1.ext E2
    replace F1_value := F1_value.ext E2
    replace F1_coder := F1_coder.ext E2
    replace O := O.ext E2
    replace hk := Nat.le_trans hk E2.1
    replace KM := KM.ext E2
    replace K := K.ext E2
    have V2 : Arv Z h2 b2 k2 .char (0 : Int32) [] (.int (0 : Int32)) := (Arv.new A2 (by decide)).pad (pad_rep [] (.int (0 : Int32)) 0)
    refine own_go (B := T2.setTop (mkF m 11 #[.val (.ref a), .val (.int p2)] [(.ref b2), (.ref b1), (.ref b1)])) st2 ?_
    -- pc 11: java/lang/String.<init>
    obtain ⟨_, _, ⟨T3, L3, k3, n3⟩, -, X3, hSq3, hgq3, ⟨Lc3, hQ3, l3, y3, z3⟩, st3⟩ := X2.specialBackS hx (y := (⟨"java/lang/String", "<init>", "([C)V"⟩ : MethodName)) rfl hown (mvT hZ (hw _ (List.mem_of_getElem? (i := 9) rfl))) (mvT hZ (hw _ (List.mem_of_getElem? (i := 10) rfl))) (mvT hZ (hw _ (List.mem_of_getElem? (i := 11) rfl))) (by decide) (own_backOfE (W := 1) (rmSE1 l Z a0 hw [] b1 b2 k2 ([]) (.int (0 : Int32)) h2 n0 O A1 F1_value F1_coder g_b1 V2 hcH hcw) hZ (hw _ (List.mem_of_getElem? (i := 11) rfl)) (hw _ (List.mem_of_getElem? (i := 8) rfl)) (by decide) (by decide)) (g := (mkF m 11 #[.val (.ref a), .val (.int p2)] [(.ref b2), (.ref b1), (.ref b1)])) rfl (by rw [hml]; rfl) (Steps.refl _) (a := b1) (argsL := [(.ref b2)]) (rest := [(.ref b1)]) (lenOf pd_2 rfl) rfl (by show 2 * 0 + _ ≤ _; exact Nat.le_of_eq rfl) (hb hby d_method_3_11) (fun _ hWm => ⟨rfl, e2, (by decide : 2 + 2 ≤ _), (by decide : 4 + 4 ≤ _), Em.warm (M.keep KM) hWm⟩)
    dsimp only [Pt.U, Pt.locs, Pt.cells, Pt.slots] at X3 l3 y3 z3 st3 hQ3 hSq3 hgq3
    subst l3 y3 z3
    obtain ⟨X3, hS, hZ, hown⟩ := rebS hS (by rw [e2]; exact hk) X3 hSq3 hgq3 hZ hown
    obtain ⟨⟨t3, k3, rfl, Nq3, Kq3, Gq3_0, Gq3_1, Gq3_2⟩, M⟩ := hQ3
    replace N := Fr.app N Nq3
    replace V := V.keep Kq3 (ninS (Nat.ne_of_lt lt_a_b1) nin0)
    replace A1 := A1.keep Kq3
    clear F1_value
    clear F1_coder
    replace G2 := G2.keep Kq3
    replace V2 := V2.keep Kq3 (ninS (Nat.ne_of_gt lt_b1_b2) nin0)
    replace O := O.keep Kq3 (allS g_b1 all0)
    replace K := K.trans Kq3 (allS (Or.inr s_b1) all0)
    have hk : T3.heap.size ≤ T3.heap.size := Nat.le_refl _
    have KM : Keep T3.heap T3.heap [] := Keep.refl _ _
    refine own_go (B := T3.setTop (mkF m 14 #[.val (.ref a), .val (.int p2)] [(.ref b1)])) (fun t k => st3.trans k) ?_
    obtain ⟨fs, hr, hrun, hended, hEnd⟩ := X3.leaveW hS hk (v := some (.ref b1)) (fun h => by rw [Bd.returns] at h; cases h)
    refine ⟨_, _, own_retA X3 hx rfl Bd.returns rfl (hb hby d_method_3_14) hr, hfin _ _ ⟨hrun, hended, _, _, rfl, ?_, ⟨hEnd.1, hEnd.2.1, hEnd.2.2.1, hEnd.2.2.2.mono (by decide) (by decide)⟩, own_emR rfl (Em.warm M X3.warmed)⟩⟩
    show QTake Z a kc c0 c1 c2 c3 c4 p2 zc h0 n0 _ T3.heap _
    exact ⟨b1, t3, k3, ([] : List Int32), rfl, N, K, s_b1, A1, Gq3_0, Gq3_1, Gq3_2, (Eq.symm (if_pos t0)), (by intro c hc; simp at hc), (Nat.le_of_ble_eq_true rfl)⟩
  · refine own_go (B := s₁.setTop (mkF m 17 #[.val (.ref a), .val (.int p2)] [(.int (1 : Int32)), (.int p2)])) (fun t k => ?_) ?_
    · show Steps p.tables e below (s₁.setTop (mkF m 1 #[.val (.ref a), .val (.int p2)] [(.int p2)])) _
      refine XS.ifYes X0.here hx rfl (pc0 := 1) (pc' := 15) rfl (hb hby d_method_3_1) rfl ((if0 _ _).trans (feq t0).2) (by decide) (by decide) ?_
      show Steps p.tables e below (s₁.setTop (mkF m 15 #[.val (.ref a), .val (.int p2)] [])) _
      refine XS.iloadN X0.here hx rfl (hb hby d_method_3_15) rfl ?_
      show Steps p.tables e below (s₁.setTop (mkF m 16 #[.val (.ref a), .val (.int p2)] [(.int p2)])) _
      refine XS.iconst X0.here hx rfl (hb hby d_method_3_16) ?_
      show Steps p.tables e below (s₁.setTop (mkF m 17 #[.val (.ref a), .val (.int p2)] [(.int (1 : Int32)), (.int p2)])) _
      exact k
    by_cases t1 : p2 = (1 : Int32)
    · refine own_go (B := s₁.setTop (mkF m 20 #[.val (.ref a), .val (.int p2)] [])) (fun t k => ?_) ?_
      · show Steps p.tables e below (s₁.setTop (mkF m 17 #[.val (.ref a), .val (.int p2)] [(.int (1 : Int32)), (.int p2)])) _
        refine XS.icmpNo X0.here hx rfl (hb hby d_method_3_17) rfl (teq t1).2 ?_
        show Steps p.tables e below (s₁.setTop (mkF m 20 #[.val (.ref a), .val (.int p2)] [])) _
        exact k
      obtain ⟨T5, h5, X5, e5, E5, A5, D5, -, st5⟩ := newO X0 hx hZ hown (hw _ (List.mem_of_getElem? (i := 6) rfl)) (hw _ (List.mem_of_getElem? (i := 7) rfl)) (hw _ (List.mem_of_getElem? (i := 8) rfl)) e0 (g := (mkF m 20 #[.val (.ref a), .val (.int p2)] [])) rfl (hb hby d_method_3_20) (by decide) (by decide)
      obtain ⟨b5, g5⟩ : ∃ z, z = h0.size := ⟨_, rfl⟩
      rw [← g5] at A5 D5 st5
      have lt_a_b5 : a < b5 := Nat.lt_of_lt_of_le V.lt (Nat.le_of_eq g5.symm)
      have g_b5 : n0 ≤ b5 := Nat.le_trans (own_oldsz O) (Nat.le_of_eq g5.symm)
      have m_b5_5 : h0.size ≤ b5 := Nat.le_trans KM.1 (Nat.le_of_eq g5.symm)
      have s_b5 : h0.size ≤ b5 := Nat.le_trans K.1 (Nat.le_of_eq g5.symm)
      replace V := V.ext E5
      replace O := O.ext E5
      replace hk := Nat.le_trans hk E5.1
      replace KM := KM.ext E5
      replace K := K.ext E5
      have F5_value : Fld Z h5 b5 "java/lang/String" "value" "[B" .null := D5 (Or.inr (hw _ (List.mem_of_getElem? (i := 21) rfl))) (ty := (.array .byte)) (by decide)
      have F5_coder : Fld Z h5 b5 "java/lang/String" "coder" "B" (.int (0 : Int32)) := D5 (Or.inr (hw _ (List.mem_of_getElem? (i := 22) rfl))) (ty := .byte) (by decide)
      refine own_go (B := T5.setTop (mkF m 23 #[.val (.ref a), .val (.int p2)] [(.ref b5)])) st5 ?_
      refine own_go (B := T5.setTop (mkF m 25 #[.val (.ref a), .val (.int p2)] [(.int (1 : Int32)), (.ref b5), (.ref b5)])) (fun t k => ?_) ?_
      · show Steps p.tables e below (T5.setTop (mkF m 23 #[.val (.ref a), .val (.int p2)] [(.ref b5)])) _
        refine XS.dup X5.here hx rfl (hb hby d_method_3_23) rfl rfl ?_
        show Steps p.tables e below (T5.setTop (mkF m 24 #[.val (.ref a), .val (.int p2)] [(.ref b5), (.ref b5)])) _
        refine XS.iconst X5.here hx rfl (hb hby d_method_3_24) ?_
        show Steps p.tables e below (T5.setTop (mkF m 25 #[.val (.ref a), .val (.int p2)] [(.int (1 : Int32)), (.ref b5), (.ref b5)])) _
        exact k
      obtain ⟨T6, h6, k6, X6, e6, E6, A6, G6, st6⟩ := newPE X5 hx hZ (hw _ (List.mem_of_getElem? (i := 1) rfl)) e5 (g := (mkF m 25 #[.val (.ref a), .val (.int p2)] [(.int (1 : Int32)), (.ref b5), (.ref b5)])) rfl (hb hby d_method_3_25) rfl (by decide) (cap := 1) (by decide) (by decide) (by decide) (by decide) (ad := "[C") (by decide)
      obtain ⟨b6, g6⟩ : ∃ z, z = h5.size := ⟨_, rfl⟩
      rw [← g6] at A6 G6 st6
      have lt_a_b6 : a < b6 := Nat.lt_of_lt_of_le V.lt (Nat.le_of_eq g6.symm)
      have lt_b5_b6 : b5 < b6 := Nat.lt_of_lt_of_le A5.lt (Nat.le_of_eq g6.symm)
      have g_b6 : n0 ≤ b6 := Nat.le_trans (own_oldsz O) (Nat.le_of_eq g6.symm)
      have m_b6_6 : h0.size ≤ b6 := Nat.le_trans KM.1 (Nat.le_of_eq g6.symm)
      have s_b6 : h0.size ≤ b6 := Nat.le_trans K.1 (Nat.le_of_eq g6.symm)
      replace V := V.ext E6
      replace A5 := A5.ext E6
      replace F5_value := F5_value.ext E6
      replace F5_coder := F5_coder.ext E6
      replace O := O.ext E6
      replace hk := Nat.le_trans hk E6.1
      replace KM := KM.ext E6
      replace K := K.ext E6
      have V6 : Arv Z h6 b6 k6 .char (1 : Int32) [(.int (0 : Int32))] (.int (0 : Int32)) := (Arv.new A6 (by decide)).pad (pad_rep [] (.int (0 : Int32)) 1)
      refine own_go (B := T6.setTop (mkF m 27 #[.val (.ref a), .val (.int p2)] [(.ref b6), (.ref b5), (.ref b5)])) st6 ?_
      refine own_go (B := T6.setTop (mkF m 31 #[.val (.ref a), .val (.int p2)] [(.int (0 : Int32)), (.ref a), (.int (0 : Int32)), (.ref b6), (.ref b6), (.ref b5), (.ref b5)])) (fun t k => ?_) ?_
      · show Steps p.tables e below (T6.setTop (mkF m 27 #[.val (.ref a), .val (.int p2)] [(.ref b6), (.ref b5), (.ref b5)])) _
        refine XS.dup X6.here hx rfl (hb hby d_method_3_27) rfl rfl ?_
        show Steps p.tables e below (T6.setTop (mkF m 28 #[.val (.ref a), .val (.int p2)] [(.ref b6), (.ref b6), (.ref b5), (.ref b5)])) _
        refine XS.iconst X6.here hx rfl (hb hby d_method_3_28) ?_
        show Steps p.tables e below (T6.setTop (mkF m 29 #[.val (.ref a), .val (.int p2)] [(.int (0 : Int32)), (.ref b6), (.ref b6), (.ref b5), (.ref b5)])) _
        refine XS.aloadN X6.here hx rfl (hb hby d_method_3_29) rfl rfl ?_
        show Steps p.tables e below (T6.setTop (mkF m 30 #[.val (.ref a), .val (.int p2)] [(.ref a), (.int (0 : Int32)), (.ref b6), (.ref b6), (.ref b5), (.ref b5)])) _
        refine XS.iconst X6.here hx rfl (hb hby d_method_3_30) ?_
        show Steps p.tables e below (T6.setTop (mkF m 31 #[.val (.ref a), .val (.int p2)] [(.int (0 : Int32)), (.ref a), (.int (0 : Int32)), (.ref b6), (.ref b6), (.ref b5), (.ref b5)])) _
        exact k
      obtain ⟨cl7, Ar7, q7, Sz7, Nn7, Hs7, Gt7⟩ := V
      have hin7 : ¬ ((0 : Int32) < 0 ∨ cl7.slots.size ≤ ((0 : Int32)).toNatClampNeg) := inb_of Sz7 ⟨by decide, by decide⟩
      have hat7 : cl7.slots[((0 : Int32)).toNatClampNeg]? = some (.int c0) := Hs7.at hin7 rfl
      have st7 := X6.caload hx (j := (0 : Int32)) (v := (.int c0)) (by rw [e6]; exact Ar7.1) (State.isArrayOf_alike hZ.alike Ar7.2.1) Ar7.2.2 hin7 hat7 (g := (mkF m 31 #[.val (.ref a), .val (.int p2)] [(.int (0 : Int32)), (.ref a), (.int (0 : Int32)), (.ref b6), (.ref b6), (.ref b5), (.ref b5)])) rfl rfl (hb hby d_method_3_31)
      have V7 : Arv Z h6 a kc .char (5 : Int32) [(.int c0), (.int c1), (.int c2), (.int c3), (.int c4)] (.int (0 : Int32)) := ⟨cl7, Ar7, q7, Sz7, Nn7, Hs7, Gt7⟩
      refine own_go (B := T6.setTop (mkF m 32 #[.val (.ref a), .val (.int p2)] [(.int c0), (.int (0 : Int32)), (.ref b6), (.ref b6), (.ref b5), (.ref b5)])) st7 ?_
      obtain ⟨cl8, Ar8, q8, Sz8, Nn8, Hs8, Gt8⟩ := V6
      have hin8 : ¬ ((0 : Int32) < 0 ∨ cl8.slots.size ≤ ((0 : Int32)).toNatClampNeg) := inb_of Sz8 ⟨by decide, by decide⟩
      obtain ⟨T8, h8, X8, e8, W8, st8⟩ := stC X6 hx hZ e6 Ar8 (j := (0 : Int32)) hin8 (g := (mkF m 32 #[.val (.ref a), .val (.int p2)] [(.int c0), (.int (0 : Int32)), (.ref b6), (.ref b6), (.ref b5), (.ref b5)])) rfl rfl (hb hby d_method_3_32)
      have V8 := Arv.set Ar8 q8 Sz8 Nn8 Hs8 Gt8 (fits_nar_char _) W8 0 rfl (Nat.le_of_ble_eq_true rfl)
      rw [cc0] at V8
      have V8 : Arv Z h8 b6 k6 .char (1 : Int32) [(.int c0)] (.int (0 : Int32)) := V8
      replace A5 := A5.wr W8
      replace F5_value := F5_value.other W8 (Or.inl (Nat.ne_of_lt lt_b5_b6))
      replace F5_coder := F5_coder.other W8 (Or.inl (Nat.ne_of_lt lt_b5_b6))
      replace G6 := G6.wr W8
      replace V7 := V7.other W8 (Nat.ne_of_lt lt_a_b6)
      replace O := O.wr W8 g_b6
      replace hk := Nat.le_trans hk (Keep.of_wr W8).1
      replace KM := KM.wr W8 (Or.inr m_b6_6)
      replace K := K.wr W8 (Or.inr s_b6)
      replace N := Fr.snoc X8 N g_b6
      refine own_go (B := T8.setTop (mkF m 33 #[.val (.ref a), .val (.int p2)] [(.ref b6), (.ref b5), (.ref b5)])) st8 ?_
      have := hc0
      have hws : ∀ d ∈ StrChars.Road.words, d.before a0 Z = true := fun d hd => hw d ((by decide +kernel : ∀ d ∈ StrChars.Road.words, d ∈ tables_1) d hd)
      -- pc 33: java/lang/String.<init>
      obtain ⟨_, _, ⟨T9, L9, k9, n9⟩, -, X9, ⟨Lc9, hQ9, l9, y9, z9⟩, st9⟩ := X8.specialBack hx (y := (⟨"java/lang/String", "<init>", "([C)V"⟩ : MethodName)) rfl hown (mvT hZ (hw _ (List.mem_of_getElem? (i := 9) rfl))) (mvT hZ (hw _ (List.mem_of_getElem? (i := 10) rfl))) (mvT hZ (hw _ (List.mem_of_getElem? (i := 11) rfl))) (by decide) (StrChars.Road.backV (W := 1) hZ hws (kI := 4) (hw _ (List.mem_of_getElem? (i := 7) rfl)) (cs := ([c0] : List Int32)) (bs := ([c0] : List Int32).map (fun c => c.toInt8.toInt32)) (n := 1) g_b5 (own_oldsz O) A5 F5_value F5_coder V8 (S_C.ext O.2) hcs rfl rfl (by decide) (by decide) (by intro c hc; simp only [List.mem_cons, List.not_mem_nil, or_false] at hc; subst hc; assumption) rfl (by decide) (by decide)) (g := (mkF m 33 #[.val (.ref a), .val (.int p2)] [(.ref b6), (.ref b5), (.ref b5)])) rfl (by rw [hml]; rfl) (Steps.refl _) (a := b5) (argsL := [(.ref b6)]) (rest := [(.ref b5)]) (lenOf pd_2 rfl) rfl (by show 2 * 0 + _ ≤ _; exact Nat.le_of_eq rfl) (hb hby d_method_3_33) (fun _ hWm => ⟨rfl, e8, (by decide : 2 + 1 ≤ _), (by decide : 5 + 1 ≤ _)⟩)
      dsimp only [Pt.U, Pt.locs, Pt.cells, Pt.slots] at X9 l9 y9 z9 st9 hQ9
      subst l9 y9 z9
      obtain ⟨rfl, Nq9, Kq9, Gq9_0, Gq9_1, t9, kb9, u9, fq9, nq9, Gq9_2, Gq9_3⟩ := hQ9
      replace N := Fr.app N Nq9
      have lt_b5_t9 : b5 < t9 := Nat.lt_of_lt_of_le A5.lt fq9
      have lt_b6_t9 : b6 < t9 := Nat.lt_of_lt_of_le G6.lt fq9
      have lt_a_t9 : a < t9 := Nat.lt_of_lt_of_le V7.lt fq9
      have g_t9 : n0 ≤ t9 := Nat.le_trans (own_oldsz O) fq9
      have m_t9_9 : h0.size ≤ t9 := Nat.le_trans KM.1 fq9
      have s_t9 : h0.size ≤ t9 := Nat.le_trans K.1 fq9
      replace A5 := A5.keep Kq9
      clear F5_value
      clear F5_coder
      replace G6 := G6.keep Kq9
      replace V7 := V7.keep Kq9 (ninS (Nat.ne_of_lt lt_a_b5) nin0)
      replace V8 := V8.keep Kq9 (ninS (Nat.ne_of_gt lt_b5_b6) nin0)
      replace O := O.keep Kq9 (allS g_b5 all0)
      replace hk := Nat.le_trans hk Kq9.1
      replace KM := KM.trans Kq9 (allS (Or.inr m_b5_5) all0)
      replace K := K.trans Kq9 (allS (Or.inr s_b5) all0)
      refine own_go (B := T9.setTop (mkF m 36 #[.val (.ref a), .val (.int p2)] [(.ref b5)])) (fun t k => st9.trans k) ?_
      obtain ⟨fs, hr, hrun, hended, hEnd⟩ := X9.leaveW hS hk (v := some (.ref b5)) (fun h => by rw [Bd.returns] at h; cases h)
      refine ⟨_, _, own_retA X9 hx rfl Bd.returns rfl (hb hby d_method_3_36) hr, hfin _ _ ⟨hrun, hended, _, _, rfl, ?_, ⟨hEnd.1, hEnd.2.1, hEnd.2.2.1, hEnd.2.2.2.mono (by decide) (by decide)⟩, own_emR rfl (Em.warm (M.keep KM) X9.warmed)⟩⟩
      show QTake Z a kc c0 c1 c2 c3 c4 p2 zc h0 n0 _ T9.heap _
      exact ⟨b5, t9, kb9, ([c0] : List Int32), rfl, N, K, s_b5, Gq9_0, Gq9_1, Gq9_2, Gq9_3, (Eq.symm ((if_neg t0).trans (if_pos t1))), (by intro c hc; simp only [List.mem_cons, List.not_mem_nil, or_false] at hc; subst hc; assumption), (Nat.le_of_ble_eq_true rfl)⟩
    · refine own_go (B := s₁.setTop (mkF m 39 #[.val (.ref a), .val (.int p2)] [(.int (2 : Int32)), (.int p2)])) (fun t k => ?_) ?_
      · show Steps p.tables e below (s₁.setTop (mkF m 17 #[.val (.ref a), .val (.int p2)] [(.int (1 : Int32)), (.int p2)])) _
        refine XS.icmpYes X0.here hx rfl (pc0 := 17) (pc' := 37) rfl (hb hby d_method_3_17) rfl (feq t1).2 (by decide) (by decide) ?_
        show Steps p.tables e below (s₁.setTop (mkF m 37 #[.val (.ref a), .val (.int p2)] [])) _
        refine XS.iloadN X0.here hx rfl (hb hby d_method_3_37) rfl ?_
        show Steps p.tables e below (s₁.setTop (mkF m 38 #[.val (.ref a), .val (.int p2)] [(.int p2)])) _
        refine XS.iconst X0.here hx rfl (hb hby d_method_3_38) ?_
        show Steps p.tables e below (s₁.setTop (mkF m 39 #[.val (.ref a), .val (.int p2)] [(.int (2 : Int32)), (.int p2)])) _
        exact k
      by_cases t2 : p2 = (2 : Int32)
      · refine own_go (B := s₁.setTop (mkF m 42 #[.val (.ref a), .val (.int p2)] [])) (fun t k => ?_) ?_
        · show Steps p.tables e below (s₁.setTop (mkF m 39 #[.val (.ref a), .val (.int p2)] [(.int (2 : Int32)), (.int p2)])) _
          refine XS.icmpNo X0.here hx rfl (hb hby d_method_3_39) rfl (teq t2).2 ?_
          show Steps p.tables e below (s₁.setTop (mkF m 42 #[.val (.ref a), .val (.int p2)] [])) _
          exact k
        obtain ⟨T11, h11, X11, e11, E11, A11, D11, -, st11⟩ := newO X0 hx hZ hown (hw _ (List.mem_of_getElem? (i := 6) rfl)) (hw _ (List.mem_of_getElem? (i := 7) rfl)) (hw _ (List.mem_of_getElem? (i := 8) rfl)) e0 (g := (mkF m 42 #[.val (.ref a), .val (.int p2)] [])) rfl (hb hby d_method_3_42) (by decide) (by decide)
        obtain ⟨b11, g11⟩ : ∃ z, z = h0.size := ⟨_, rfl⟩
        rw [← g11] at A11 D11 st11
        have lt_a_b11 : a < b11 := Nat.lt_of_lt_of_le V.lt (Nat.le_of_eq g11.symm)
        have g_b11 : n0 ≤ b11 := Nat.le_trans (own_oldsz O) (Nat.le_of_eq g11.symm)
        have m_b11_11 : h0.size ≤ b11 := Nat.le_trans KM.1 (Nat.le_of_eq g11.symm)
        have s_b11 : h0.size ≤ b11 := Nat.le_trans K.1 (Nat.le_of_eq g11.symm)
        replace V := V.ext E11
        replace O := O.ext E11
        replace hk := Nat.le_trans hk E11.1
        replace KM := KM.ext E11
        replace K := K.ext E11
        have F11_value : Fld Z h11 b11 "java/lang/String" "value" "[B" .null := D11 (Or.inr (hw _ (List.mem_of_getElem? (i := 21) rfl))) (ty := (.array .byte)) (by decide)
        have F11_coder : Fld Z h11 b11 "java/lang/String" "coder" "B" (.int (0 : Int32)) := D11 (Or.inr (hw _ (List.mem_of_getElem? (i := 22) rfl))) (ty := .byte) (by decide)
        refine own_go (B := T11.setTop (mkF m 45 #[.val (.ref a), .val (.int p2)] [(.ref b11)])) st11 ?_
        refine own_go (B := T11.setTop (mkF m 47 #[.val (.ref a), .val (.int p2)] [(.int (2 : Int32)), (.ref b11), (.ref b11)])) (fun t k => ?_) ?_
        · show Steps p.tables e below (T11.setTop (mkF m 45 #[.val (.ref a), .val (.int p2)] [(.ref b11)])) _
          refine XS.dup X11.here hx rfl (hb hby d_method_3_45) rfl rfl ?_
          show Steps p.tables e below (T11.setTop (mkF m 46 #[.val (.ref a), .val (.int p2)] [(.ref b11), (.ref b11)])) _
          refine XS.iconst X11.here hx rfl (hb hby d_method_3_46) ?_
          show Steps p.tables e below (T11.setTop (mkF m 47 #[.val (.ref a), .val (.int p2)] [(.int (2 : Int32)), (.ref b11), (.ref b11)])) _
          exact k
        obtain ⟨T12, h12, k12, X12, e12, E12, A12, G12, st12⟩ := newPE X11 hx hZ (hw _ (List.mem_of_getElem? (i := 1) rfl)) e11 (g := (mkF m 47 #[.val (.ref a), .val (.int p2)] [(.int (2 : Int32)), (.ref b11), (.ref b11)])) rfl (hb hby d_method_3_47) rfl (by decide) (cap := 2) (by decide) (by decide) (by decide) (by decide) (ad := "[C") (by decide)
        obtain ⟨b12, g12⟩ : ∃ z, z = h11.size := ⟨_, rfl⟩
        rw [← g12] at A12 G12 st12
        have lt_a_b12 : a < b12 := Nat.lt_of_lt_of_le V.lt (Nat.le_of_eq g12.symm)
        have lt_b11_b12 : b11 < b12 := Nat.lt_of_lt_of_le A11.lt (Nat.le_of_eq g12.symm)
        have g_b12 : n0 ≤ b12 := Nat.le_trans (own_oldsz O) (Nat.le_of_eq g12.symm)
        have m_b12_12 : h0.size ≤ b12 := Nat.le_trans KM.1 (Nat.le_of_eq g12.symm)
        have s_b12 : h0.size ≤ b12 := Nat.le_trans K.1 (Nat.le_of_eq g12.symm)
        replace V := V.ext E12
        replace A11 := A11.ext E12
        replace F11_value := F11_value.ext E12
        replace F11_coder := F11_coder.ext E12
        replace O := O.ext E12
        replace hk := Nat.le_trans hk E12.1
        replace KM := KM.ext E12
        replace K := K.ext E12
        have V12 : Arv Z h12 b12 k12 .char (2 : Int32) [(.int (0 : Int32)), (.int (0 : Int32))] (.int (0 : Int32)) := (Arv.new A12 (by decide)).pad (pad_rep [] (.int (0 : Int32)) 2)
        refine own_go (B := T12.setTop (mkF m 49 #[.val (.ref a), .val (.int p2)] [(.ref b12), (.ref b11), (.ref b11)])) st12 ?_
        refine own_go (B := T12.setTop (mkF m 53 #[.val (.ref a), .val (.int p2)] [(.int (0 : Int32)), (.ref a), (.int (0 : Int32)), (.ref b12), (.ref b12), (.ref b11), (.ref b11)])) (fun t k => ?_) ?_
        · show Steps p.tables e below (T12.setTop (mkF m 49 #[.val (.ref a), .val (.int p2)] [(.ref b12), (.ref b11), (.ref b11)])) _
          refine XS.dup X12.here hx rfl (hb hby d_method_3_49) rfl rfl ?_
          show Steps p.tables e below (T12.setTop (mkF m 50 #[.val (.ref a), .val (.int p2)] [(.ref b12), (.ref b12), (.ref b11), (.ref b11)])) _
          refine XS.iconst X12.here hx rfl (hb hby d_method_3_50) ?_
          show Steps p.tables e below (T12.setTop (mkF m 51 #[.val (.ref a), .val (.int p2)] [(.int (0 : Int32)), (.ref b12), (.ref b12), (.ref b11), (.ref b11)])) _
          refine XS.aloadN X12.here hx rfl (hb hby d_method_3_51) rfl rfl ?_
          show Steps p.tables e below (T12.setTop (mkF m 52 #[.val (.ref a), .val (.int p2)] [(.ref a), (.int (0 : Int32)), (.ref b12), (.ref b12), (.ref b11), (.ref b11)])) _
          refine XS.iconst X12.here hx rfl (hb hby d_method_3_52) ?_
          show Steps p.tables e below (T12.setTop (mkF m 53 #[.val (.ref a), .val (.int p2)] [(.int (0 : Int32)), (.ref a), (.int (0 : Int32)), (.ref b12), (.ref b12), (.ref b11), (.ref b11)])) _
          exact k
        obtain ⟨cl13, Ar13, q13, Sz13, Nn13, Hs13, Gt13⟩ := V
        have hin13 : ¬ ((0 : Int32) < 0 ∨ cl13.slots.size ≤ ((0 : Int32)).toNatClampNeg) := inb_of Sz13 ⟨by decide, by decide⟩
        have hat13 : cl13.slots[((0 : Int32)).toNatClampNeg]? = some (.int c0) := Hs13.at hin13 rfl
        have st13 := X12.caload hx (j := (0 : Int32)) (v := (.int c0)) (by rw [e12]; exact Ar13.1) (State.isArrayOf_alike hZ.alike Ar13.2.1) Ar13.2.2 hin13 hat13 (g := (mkF m 53 #[.val (.ref a), .val (.int p2)] [(.int (0 : Int32)), (.ref a), (.int (0 : Int32)), (.ref b12), (.ref b12), (.ref b11), (.ref b11)])) rfl rfl (hb hby d_method_3_53)
        have V13 : Arv Z h12 a kc .char (5 : Int32) [(.int c0), (.int c1), (.int c2), (.int c3), (.int c4)] (.int (0 : Int32)) := ⟨cl13, Ar13, q13, Sz13, Nn13, Hs13, Gt13⟩
        refine own_go (B := T12.setTop (mkF m 54 #[.val (.ref a), .val (.int p2)] [(.int c0), (.int (0 : Int32)), (.ref b12), (.ref b12), (.ref b11), (.ref b11)])) st13 ?_
        obtain ⟨cl14, Ar14, q14, Sz14, Nn14, Hs14, Gt14⟩ := V12
        have hin14 : ¬ ((0 : Int32) < 0 ∨ cl14.slots.size ≤ ((0 : Int32)).toNatClampNeg) := inb_of Sz14 ⟨by decide, by decide⟩
        obtain ⟨T14, h14, X14, e14, W14, st14⟩ := stC X12 hx hZ e12 Ar14 (j := (0 : Int32)) hin14 (g := (mkF m 54 #[.val (.ref a), .val (.int p2)] [(.int c0), (.int (0 : Int32)), (.ref b12), (.ref b12), (.ref b11), (.ref b11)])) rfl rfl (hb hby d_method_3_54)
        have V14 := Arv.set Ar14 q14 Sz14 Nn14 Hs14 Gt14 (fits_nar_char _) W14 0 rfl (Nat.le_of_ble_eq_true rfl)
        rw [cc0] at V14
        have V14 : Arv Z h14 b12 k12 .char (2 : Int32) [(.int c0), (.int (0 : Int32))] (.int (0 : Int32)) := V14
        replace A11 := A11.wr W14
        replace F11_value := F11_value.other W14 (Or.inl (Nat.ne_of_lt lt_b11_b12))
        replace F11_coder := F11_coder.other W14 (Or.inl (Nat.ne_of_lt lt_b11_b12))
        replace G12 := G12.wr W14
        replace V13 := V13.other W14 (Nat.ne_of_lt lt_a_b12)
        replace O := O.wr W14 g_b12
        replace hk := Nat.le_trans hk (Keep.of_wr W14).1
        replace KM := KM.wr W14 (Or.inr m_b12_12)
        replace K := K.wr W14 (Or.inr s_b12)
        replace N := Fr.snoc X14 N g_b12
        refine own_go (B := T14.setTop (mkF m 55 #[.val (.ref a), .val (.int p2)] [(.ref b12), (.ref b11), (.ref b11)])) st14 ?_
        refine own_go (B := T14.setTop (mkF m 59 #[.val (.ref a), .val (.int p2)] [(.int (1 : Int32)), (.ref a), (.int (1 : Int32)), (.ref b12), (.ref b12), (.ref b11), (.ref b11)])) (fun t k => ?_) ?_
        · show Steps p.tables e below (T14.setTop (mkF m 55 #[.val (.ref a), .val (.int p2)] [(.ref b12), (.ref b11), (.ref b11)])) _
          refine XS.dup X14.here hx rfl (hb hby d_method_3_55) rfl rfl ?_
          show Steps p.tables e below (T14.setTop (mkF m 56 #[.val (.ref a), .val (.int p2)] [(.ref b12), (.ref b12), (.ref b11), (.ref b11)])) _
          refine XS.iconst X14.here hx rfl (hb hby d_method_3_56) ?_
          show Steps p.tables e below (T14.setTop (mkF m 57 #[.val (.ref a), .val (.int p2)] [(.int (1 : Int32)), (.ref b12), (.ref b12), (.ref b11), (.ref b11)])) _
          refine XS.aloadN X14.here hx rfl (hb hby d_method_3_57) rfl rfl ?_
          show Steps p.tables e below (T14.setTop (mkF m 58 #[.val (.ref a), .val (.int p2)] [(.ref a), (.int (1 : Int32)), (.ref b12), (.ref b12), (.ref b11), (.ref b11)])) _
          refine XS.iconst X14.here hx rfl (hb hby d_method_3_58) ?_
          show Steps p.tables e below (T14.setTop (mkF m 59 #[.val (.ref a), .val (.int p2)] [(.int (1 : Int32)), (.ref a), (.int (1 : Int32)), (.ref b12), (.ref b12), (.ref b11), (.ref b11)])) _
          exact k
        obtain ⟨cl15, Ar15, q15, Sz15, Nn15, Hs15, Gt15⟩ := V13
        have hin15 : ¬ ((1 : Int32) < 0 ∨ cl15.slots.size ≤ ((1 : Int32)).toNatClampNeg) := inb_of Sz15 ⟨by decide, by decide⟩
        have hat15 : cl15.slots[((1 : Int32)).toNatClampNeg]? = some (.int c1) := Hs15.at hin15 rfl
        have st15 := X14.caload hx (j := (1 : Int32)) (v := (.int c1)) (by rw [e14]; exact Ar15.1) (State.isArrayOf_alike hZ.alike Ar15.2.1) Ar15.2.2 hin15 hat15 (g := (mkF m 59 #[.val (.ref a), .val (.int p2)] [(.int (1 : Int32)), (.ref a), (.int (1 : Int32)), (.ref b12), (.ref b12), (.ref b11), (.ref b11)])) rfl rfl (hb hby d_method_3_59)
        have V15 : Arv Z h14 a kc .char (5 : Int32) [(.int c0), (.int c1), (.int c2), (.int c3), (.int c4)] (.int (0 : Int32)) := ⟨cl15, Ar15, q15, Sz15, Nn15, Hs15, Gt15⟩
        refine own_go (B := T14.setTop (mkF m 60 #[.val (.ref a), .val (.int p2)] [(.int c1), (.int (1 : Int32)), (.ref b12), (.ref b12), (.ref b11), (.ref b11)])) st15 ?_
        obtain ⟨cl16, Ar16, q16, Sz16, Nn16, Hs16, Gt16⟩ := V14
        have hin16 : ¬ ((1 : Int32) < 0 ∨ cl16.slots.size ≤ ((1 : Int32)).toNatClampNeg) := inb_of Sz16 ⟨by decide, by decide⟩
        obtain ⟨T16, h16, X16, e16, W16, st16⟩ := stC X14 hx hZ e14 Ar16 (j := (1 : Int32)) hin16 (g := (mkF m 60 #[.val (.ref a), .val (.int p2)] [(.int c1), (.int (1 : Int32)), (.ref b12), (.ref b12), (.ref b11), (.ref b11)])) rfl rfl (hb hby d_method_3_60)
        have V16 := Arv.set Ar16 q16 Sz16 Nn16 Hs16 Gt16 (fits_nar_char _) W16 1 rfl (Nat.le_of_ble_eq_true rfl)
        rw [cc1] at V16
        have V16 : Arv Z h16 b12 k12 .char (2 : Int32) [(.int c0), (.int c1)] (.int (0 : Int32)) := V16
        replace A11 := A11.wr W16
        replace F11_value := F11_value.other W16 (Or.inl (Nat.ne_of_lt lt_b11_b12))
        replace F11_coder := F11_coder.other W16 (Or.inl (Nat.ne_of_lt lt_b11_b12))
        replace G12 := G12.wr W16
        replace V15 := V15.other W16 (Nat.ne_of_lt lt_a_b12)
        replace O := O.wr W16 g_b12
        replace hk := Nat.le_trans hk (Keep.of_wr W16).1
        replace KM := KM.wr W16 (Or.inr m_b12_12)
        replace K := K.wr W16 (Or.inr s_b12)
        replace N := Fr.snoc X16 N g_b12
        refine own_go (B := T16.setTop (mkF m 61 #[.val (.ref a), .val (.int p2)] [(.ref b12), (.ref b11), (.ref b11)])) st16 ?_
        have := hc0
        have := hc1
        have hws : ∀ d ∈ StrChars.Road.words, d.before a0 Z = true := fun d hd => hw d ((by decide +kernel : ∀ d ∈ StrChars.Road.words, d ∈ tables_1) d hd)
        -- pc 61: java/lang/String.<init>
        obtain ⟨_, _, ⟨T17, L17, k17, n17⟩, -, X17, ⟨Lc17, hQ17, l17, y17, z17⟩, st17⟩ := X16.specialBack hx (y := (⟨"java/lang/String", "<init>", "([C)V"⟩ : MethodName)) rfl hown (mvT hZ (hw _ (List.mem_of_getElem? (i := 9) rfl))) (mvT hZ (hw _ (List.mem_of_getElem? (i := 10) rfl))) (mvT hZ (hw _ (List.mem_of_getElem? (i := 11) rfl))) (by decide) (StrChars.Road.backV (W := 1) hZ hws (kI := 4) (hw _ (List.mem_of_getElem? (i := 7) rfl)) (cs := ([c0, c1] : List Int32)) (bs := ([c0, c1] : List Int32).map (fun c => c.toInt8.toInt32)) (n := 2) g_b11 (own_oldsz O) A11 F11_value F11_coder V16 (S_C.ext O.2) hcs rfl rfl (by decide) (by decide) (by intro c hc; simp only [List.mem_cons, List.not_mem_nil, or_false] at hc; rcases hc with rfl | rfl <;> assumption) rfl (by decide) (by decide)) (g := (mkF m 61 #[.val (.ref a), .val (.int p2)] [(.ref b12), (.ref b11), (.ref b11)])) rfl (by rw [hml]; rfl) (Steps.refl _) (a := b11) (argsL := [(.ref b12)]) (rest := [(.ref b11)]) (lenOf pd_2 rfl) rfl (by show 2 * 0 + _ ≤ _; exact Nat.le_of_eq rfl) (hb hby d_method_3_61) (fun _ hWm => ⟨rfl, e16, (by decide : 2 + 1 ≤ _), (by decide : 6 + 2 ≤ _)⟩)
        dsimp only [Pt.U, Pt.locs, Pt.cells, Pt.slots] at X17 l17 y17 z17 st17 hQ17
        subst l17 y17 z17
        obtain ⟨rfl, Nq17, Kq17, Gq17_0, Gq17_1, t17, kb17, u17, fq17, nq17, Gq17_2, Gq17_3⟩ := hQ17
        replace N := Fr.app N Nq17
        have lt_b11_t17 : b11 < t17 := Nat.lt_of_lt_of_le A11.lt fq17
        have lt_b12_t17 : b12 < t17 := Nat.lt_of_lt_of_le G12.lt fq17
        have lt_a_t17 : a < t17 := Nat.lt_of_lt_of_le V15.lt fq17
        have g_t17 : n0 ≤ t17 := Nat.le_trans (own_oldsz O) fq17
        have m_t17_17 : h0.size ≤ t17 := Nat.le_trans KM.1 fq17
        have s_t17 : h0.size ≤ t17 := Nat.le_trans K.1 fq17
        replace A11 := A11.keep Kq17
        clear F11_value
        clear F11_coder
        replace G12 := G12.keep Kq17
        replace V15 := V15.keep Kq17 (ninS (Nat.ne_of_lt lt_a_b11) nin0)
        replace V16 := V16.keep Kq17 (ninS (Nat.ne_of_gt lt_b11_b12) nin0)
        replace O := O.keep Kq17 (allS g_b11 all0)
        replace hk := Nat.le_trans hk Kq17.1
        replace KM := KM.trans Kq17 (allS (Or.inr m_b11_11) all0)
        replace K := K.trans Kq17 (allS (Or.inr s_b11) all0)
        refine own_go (B := T17.setTop (mkF m 64 #[.val (.ref a), .val (.int p2)] [(.ref b11)])) (fun t k => st17.trans k) ?_
        obtain ⟨fs, hr, hrun, hended, hEnd⟩ := X17.leaveW hS hk (v := some (.ref b11)) (fun h => by rw [Bd.returns] at h; cases h)
        refine ⟨_, _, own_retA X17 hx rfl Bd.returns rfl (hb hby d_method_3_64) hr, hfin _ _ ⟨hrun, hended, _, _, rfl, ?_, ⟨hEnd.1, hEnd.2.1, hEnd.2.2.1, hEnd.2.2.2.mono (by decide) (by decide)⟩, own_emR rfl (Em.warm (M.keep KM) X17.warmed)⟩⟩
        show QTake Z a kc c0 c1 c2 c3 c4 p2 zc h0 n0 _ T17.heap _
        exact ⟨b11, t17, kb17, ([c0, c1] : List Int32), rfl, N, K, s_b11, Gq17_0, Gq17_1, Gq17_2, Gq17_3, (Eq.symm ((if_neg t0).trans ((if_neg t1).trans (if_pos t2)))), (by intro c hc; simp only [List.mem_cons, List.not_mem_nil, or_false] at hc; rcases hc with rfl | rfl <;> assumption), (Nat.le_of_ble_eq_true rfl)⟩
      · refine own_go (B := s₁.setTop (mkF m 67 #[.val (.ref a), .val (.int p2)] [(.int (3 : Int32)), (.int p2)])) (fun t k => ?_) ?_
        · show Steps p.tables e below (s₁.setTop (mkF m 39 #[.val (.ref a), .val (.int p2)] [(.int (2 : Int32)), (.int p2)])) _
          refine XS.icmpYes X0.here hx rfl (pc0 := 39) (pc' := 65) rfl (hb hby d_method_3_39) rfl (feq t2).2 (by decide) (by decide) ?_
          show Steps p.tables e below (s₁.setTop (mkF m 65 #[.val (.ref a), .val (.int p2)] [])) _
          refine XS.iloadN X0.here hx rfl (hb hby d_method_3_65) rfl ?_
          show Steps p.tables e below (s₁.setTop (mkF m 66 #[.val (.ref a), .val (.int p2)] [(.int p2)])) _
          refine XS.iconst X0.here hx rfl (hb hby d_method_3_66) ?_
          show Steps p.tables e below (s₁.setTop (mkF m 67 #[.val (.ref a), .val (.int p2)] [(.int (3 : Int32)), (.int p2)])) _
          exact k
        by_cases t3 : p2 = (3 : Int32)
        · refine own_go (B := s₁.setTop (mkF m 70 #[.val (.ref a), .val (.int p2)] [])) (fun t k => ?_) ?_
          · show Steps p.tables e below (s₁.setTop (mkF m 67 #[.val (.ref a), .val (.int p2)] [(.int (3 : Int32)), (.int p2)])) _
            refine XS.icmpNo X0.here hx rfl (hb hby d_method_3_67) rfl (teq t3).2 ?_
            show Steps p.tables e below (s₁.setTop (mkF m 70 #[.val (.ref a), .val (.int p2)] [])) _
            exact k
          obtain ⟨T19, h19, X19, e19, E19, A19, D19, -, st19⟩ := newO X0 hx hZ hown (hw _ (List.mem_of_getElem? (i := 6) rfl)) (hw _ (List.mem_of_getElem? (i := 7) rfl)) (hw _ (List.mem_of_getElem? (i := 8) rfl)) e0 (g := (mkF m 70 #[.val (.ref a), .val (.int p2)] [])) rfl (hb hby d_method_3_70) (by decide) (by decide)
          obtain ⟨b19, g19⟩ : ∃ z, z = h0.size := ⟨_, rfl⟩
          rw [← g19] at A19 D19 st19
          have lt_a_b19 : a < b19 := Nat.lt_of_lt_of_le V.lt (Nat.le_of_eq g19.symm)
          have g_b19 : n0 ≤ b19 := Nat.le_trans (own_oldsz O) (Nat.le_of_eq g19.symm)
          have m_b19_19 : h0.size ≤ b19 := Nat.le_trans KM.1 (Nat.le_of_eq g19.symm)
          have s_b19 : h0.size ≤ b19 := Nat.le_trans K.1 (Nat.le_of_eq g19.symm)
          replace V := V.ext E19
          replace O := O.ext E19
          replace hk := Nat.le_trans hk E19.1
          replace KM := KM.ext E19
          replace K := K.ext E19
          have F19_value : Fld Z h19 b19 "java/lang/String" "value" "[B" .null := D19 (Or.inr (hw _ (List.mem_of_getElem? (i := 21) rfl))) (ty := (.array .byte)) (by decide)
          have F19_coder : Fld Z h19 b19 "java/lang/String" "coder" "B" (.int (0 : Int32)) := D19 (Or.inr (hw _ (List.mem_of_getElem? (i := 22) rfl))) (ty := .byte) (by decide)
          refine own_go (B := T19.setTop (mkF m 73 #[.val (.ref a), .val (.int p2)] [(.ref b19)])) st19 ?_
          refine own_go (B := T19.setTop (mkF m 75 #[.val (.ref a), .val (.int p2)] [(.int (3 : Int32)), (.ref b19), (.ref b19)])) (fun t k => ?_) ?_
          · show Steps p.tables e below (T19.setTop (mkF m 73 #[.val (.ref a), .val (.int p2)] [(.ref b19)])) _
            refine XS.dup X19.here hx rfl (hb hby d_method_3_73) rfl rfl ?_
            show Steps p.tables e below (T19.setTop (mkF m 74 #[.val (.ref a), .val (.int p2)] [(.ref b19), (.ref b19)])) _
            refine XS.iconst X19.here hx rfl (hb hby d_method_3_74) ?_
            show Steps p.tables e below (T19.setTop (mkF m 75 #[.val (.ref a), .val (.int p2)] [(.int (3 : Int32)), (.ref b19), (.ref b19)])) _
            exact k
          obtain ⟨T20, h20, k20, X20, e20, E20, A20, G20, st20⟩ := newPE X19 hx hZ (hw _ (List.mem_of_getElem? (i := 1) rfl)) e19 (g := (mkF m 75 #[.val (.ref a), .val (.int p2)] [(.int (3 : Int32)), (.ref b19), (.ref b19)])) rfl (hb hby d_method_3_75) rfl (by decide) (cap := 3) (by decide) (by decide) (by decide) (by decide) (ad := "[C") (by decide)
          obtain ⟨b20, g20⟩ : ∃ z, z = h19.size := ⟨_, rfl⟩
          rw [← g20] at A20 G20 st20
          have lt_a_b20 : a < b20 := Nat.lt_of_lt_of_le V.lt (Nat.le_of_eq g20.symm)
          have lt_b19_b20 : b19 < b20 := Nat.lt_of_lt_of_le A19.lt (Nat.le_of_eq g20.symm)
          have g_b20 : n0 ≤ b20 := Nat.le_trans (own_oldsz O) (Nat.le_of_eq g20.symm)
          have m_b20_20 : h0.size ≤ b20 := Nat.le_trans KM.1 (Nat.le_of_eq g20.symm)
          have s_b20 : h0.size ≤ b20 := Nat.le_trans K.1 (Nat.le_of_eq g20.symm)
          replace V := V.ext E20
          replace A19 := A19.ext E20
          replace F19_value := F19_value.ext E20
          replace F19_coder := F19_coder.ext E20
          replace O := O.ext E20
          replace hk := Nat.le_trans hk E20.1
          replace KM := KM.ext E20
          replace K := K.ext E20
          have V20 : Arv Z h20 b20 k20 .char (3 : Int32) [(.int (0 : Int32)), (.int (0 : Int32)), (.int (0 : Int32))] (.int (0 : Int32)) := (Arv.new A20 (by decide)).pad (pad_rep [] (.int (0 : Int32)) 3)
          refine own_go (B := T20.setTop (mkF m 77 #[.val (.ref a), .val (.int p2)] [(.ref b20), (.ref b19), (.ref b19)])) st20 ?_
          refine own_go (B := T20.setTop (mkF m 81 #[.val (.ref a), .val (.int p2)] [(.int (0 : Int32)), (.ref a), (.int (0 : Int32)), (.ref b20), (.ref b20), (.ref b19), (.ref b19)])) (fun t k => ?_) ?_
          · show Steps p.tables e below (T20.setTop (mkF m 77 #[.val (.ref a), .val (.int p2)] [(.ref b20), (.ref b19), (.ref b19)])) _
            refine XS.dup X20.here hx rfl (hb hby d_method_3_77) rfl rfl ?_
            show Steps p.tables e below (T20.setTop (mkF m 78 #[.val (.ref a), .val (.int p2)] [(.ref b20), (.ref b20), (.ref b19), (.ref b19)])) _
            refine XS.iconst X20.here hx rfl (hb hby d_method_3_78) ?_
            show Steps p.tables e below (T20.setTop (mkF m 79 #[.val (.ref a), .val (.int p2)] [(.int (0 : Int32)), (.ref b20), (.ref b20), (.ref b19), (.ref b19)])) _
            refine XS.aloadN X20.here hx rfl (hb hby d_method_3_79) rfl rfl ?_
            show Steps p.tables e below (T20.setTop (mkF m 80 #[.val (.ref a), .val (.int p2)] [(.ref a), (.int (0 : Int32)), (.ref b20), (.ref b20), (.ref b19), (.ref b19)])) _
            refine XS.iconst X20.here hx rfl (hb hby d_method_3_80) ?_
            show Steps p.tables e below (T20.setTop (mkF m 81 #[.val (.ref a), .val (.int p2)] [(.int (0 : Int32)), (.ref a), (.int (0 : Int32)), (.ref b20), (.ref b20), (.ref b19), (.ref b19)])) _
            exact k
          obtain ⟨cl21, Ar21, q21, Sz21, Nn21, Hs21, Gt21⟩ := V
          have hin21 : ¬ ((0 : Int32) < 0 ∨ cl21.slots.size ≤ ((0 : Int32)).toNatClampNeg) := inb_of Sz21 ⟨by decide, by decide⟩
          have hat21 : cl21.slots[((0 : Int32)).toNatClampNeg]? = some (.int c0) := Hs21.at hin21 rfl
          have st21 := X20.caload hx (j := (0 : Int32)) (v := (.int c0)) (by rw [e20]; exact Ar21.1) (State.isArrayOf_alike hZ.alike Ar21.2.1) Ar21.2.2 hin21 hat21 (g := (mkF m 81 #[.val (.ref a), .val (.int p2)] [(.int (0 : Int32)), (.ref a), (.int (0 : Int32)), (.ref b20), (.ref b20), (.ref b19), (.ref b19)])) rfl rfl (hb hby d_method_3_81)
          have V21 : Arv Z h20 a kc .char (5 : Int32) [(.int c0), (.int c1), (.int c2), (.int c3), (.int c4)] (.int (0 : Int32)) := ⟨cl21, Ar21, q21, Sz21, Nn21, Hs21, Gt21⟩
          refine own_go (B := T20.setTop (mkF m 82 #[.val (.ref a), .val (.int p2)] [(.int c0), (.int (0 : Int32)), (.ref b20), (.ref b20), (.ref b19), (.ref b19)])) st21 ?_
          obtain ⟨cl22, Ar22, q22, Sz22, Nn22, Hs22, Gt22⟩ := V20
          have hin22 : ¬ ((0 : Int32) < 0 ∨ cl22.slots.size ≤ ((0 : Int32)).toNatClampNeg) := inb_of Sz22 ⟨by decide, by decide⟩
          obtain ⟨T22, h22, X22, e22, W22, st22⟩ := stC X20 hx hZ e20 Ar22 (j := (0 : Int32)) hin22 (g := (mkF m 82 #[.val (.ref a), .val (.int p2)] [(.int c0), (.int (0 : Int32)), (.ref b20), (.ref b20), (.ref b19), (.ref b19)])) rfl rfl (hb hby d_method_3_82)
          have V22 := Arv.set Ar22 q22 Sz22 Nn22 Hs22 Gt22 (fits_nar_char _) W22 0 rfl (Nat.le_of_ble_eq_true rfl)
          rw [cc0] at V22
          have V22 : Arv Z h22 b20 k20 .char (3 : Int32) [(.int c0), (.int (0 : Int32)), (.int (0 : Int32))] (.int (0 : Int32)) := V22
          replace A19 := A19.wr W22
          replace F19_value := F19_value.other W22 (Or.inl (Nat.ne_of_lt lt_b19_b20))
          replace F19_coder := F19_coder.other W22 (Or.inl (Nat.ne_of_lt lt_b19_b20))
          replace G20 := G20.wr W22
          replace V21 := V21.other W22 (Nat.ne_of_lt lt_a_b20)
          replace O := O.wr W22 g_b20
          replace hk := Nat.le_trans hk (Keep.of_wr W22).1
          replace KM := KM.wr W22 (Or.inr m_b20_20)
          replace K := K.wr W22 (Or.inr s_b20)
          replace N := Fr.snoc X22 N g_b20
          refine own_go (B := T22.setTop (mkF m 83 #[.val (.ref a), .val (.int p2)] [(.ref b20), (.ref b19), (.ref b19)])) st22 ?_
          refine own_go (B := T22.setTop (mkF m 87 #[.val (.ref a), .val (.int p2)] [(.int (1 : Int32)), (.ref a), (.int (1 : Int32)), (.ref b20), (.ref b20), (.ref b19), (.ref b19)])) (fun t k => ?_) ?_
          · show Steps p.tables e below (T22.setTop (mkF m 83 #[.val (.ref a), .val (.int p2)] [(.ref b20), (.ref b19), (.ref b19)])) _
            refine XS.dup X22.here hx rfl (hb hby d_method_3_83) rfl rfl ?_
            show Steps p.tables e below (T22.setTop (mkF m 84 #[.val (.ref a), .val (.int p2)] [(.ref b20), (.ref b20), (.ref b19), (.ref b19)])) _
            refine XS.iconst X22.here hx rfl (hb hby d_method_3_84) ?_
            show Steps p.tables e below (T22.setTop (mkF m 85 #[.val (.ref a), .val (.int p2)] [(.int (1 : Int32)), (.ref b20), (.ref b20), (.ref b19), (.ref b19)])) _
            refine XS.aloadN X22.here hx rfl (hb hby d_method_3_85) rfl rfl ?_
            show Steps p.tables e below (T22.setTop (mkF m 86 #[.val (.ref a), .val (.int p2)] [(.ref a), (.int (1 : Int32)), (.ref b20), (.ref b20), (.ref b19), (.ref b19)])) _
            refine XS.iconst X22.here hx rfl (hb hby d_method_3_86) ?_
            show Steps p.tables e below (T22.setTop (mkF m 87 #[.val (.ref a), .val (.int p2)] [(.int (1 : Int32)), (.ref a), (.int (1 : Int32)), (.ref b20), (.ref b20), (.ref b19), (.ref b19)])) _
            exact k
          obtain ⟨cl23, Ar23, q23, Sz23, Nn23, Hs23, Gt23⟩ := V21
          have hin23 : ¬ ((1 : Int32) < 0 ∨ cl23.slots.size ≤ ((1 : Int32)).toNatClampNeg) := inb_of Sz23 ⟨by decide, by decide⟩
          have hat23 : cl23.slots[((1 : Int32)).toNatClampNeg]? = some (.int c1) := Hs23.at hin23 rfl
          have st23 := X22.caload hx (j := (1 : Int32)) (v := (.int c1)) (by rw [e22]; exact Ar23.1) (State.isArrayOf_alike hZ.alike Ar23.2.1) Ar23.2.2 hin23 hat23 (g := (mkF m 87 #[.val (.ref a), .val (.int p2)] [(.int (1 : Int32)), (.ref a), (.int (1 : Int32)), (.ref b20), (.ref b20), (.ref b19), (.ref b19)])) rfl rfl (hb hby d_method_3_87)
          have V23 : Arv Z h22 a kc .char (5 : Int32) [(.int c0), (.int c1), (.int c2), (.int c3), (.int c4)] (.int (0 : Int32)) := ⟨cl23, Ar23, q23, Sz23, Nn23, Hs23, Gt23⟩
          refine own_go (B := T22.setTop (mkF m 88 #[.val (.ref a), .val (.int p2)] [(.int c1), (.int (1 : Int32)), (.ref b20), (.ref b20), (.ref b19), (.ref b19)])) st23 ?_
          obtain ⟨cl24, Ar24, q24, Sz24, Nn24, Hs24, Gt24⟩ := V22
          have hin24 : ¬ ((1 : Int32) < 0 ∨ cl24.slots.size ≤ ((1 : Int32)).toNatClampNeg) := inb_of Sz24 ⟨by decide, by decide⟩
          obtain ⟨T24, h24, X24, e24, W24, st24⟩ := stC X22 hx hZ e22 Ar24 (j := (1 : Int32)) hin24 (g := (mkF m 88 #[.val (.ref a), .val (.int p2)] [(.int c1), (.int (1 : Int32)), (.ref b20), (.ref b20), (.ref b19), (.ref b19)])) rfl rfl (hb hby d_method_3_88)
          have V24 := Arv.set Ar24 q24 Sz24 Nn24 Hs24 Gt24 (fits_nar_char _) W24 1 rfl (Nat.le_of_ble_eq_true rfl)
          rw [cc1] at V24
          have V24 : Arv Z h24 b20 k20 .char (3 : Int32) [(.int c0), (.int c1), (.int (0 : Int32))] (.int (0 : Int32)) := V24
          replace A19 := A19.wr W24
          replace F19_value := F19_value.other W24 (Or.inl (Nat.ne_of_lt lt_b19_b20))
          replace F19_coder := F19_coder.other W24 (Or.inl (Nat.ne_of_lt lt_b19_b20))
          replace G20 := G20.wr W24
          replace V23 := V23.other W24 (Nat.ne_of_lt lt_a_b20)
          replace O := O.wr W24 g_b20
          replace hk := Nat.le_trans hk (Keep.of_wr W24).1
          replace KM := KM.wr W24 (Or.inr m_b20_20)
          replace K := K.wr W24 (Or.inr s_b20)
          replace N := Fr.snoc X24 N g_b20
          refine own_go (B := T24.setTop (mkF m 89 #[.val (.ref a), .val (.int p2)] [(.ref b20), (.ref b19), (.ref b19)])) st24 ?_
          refine own_go (B := T24.setTop (mkF m 93 #[.val (.ref a), .val (.int p2)] [(.int (2 : Int32)), (.ref a), (.int (2 : Int32)), (.ref b20), (.ref b20), (.ref b19), (.ref b19)])) (fun t k => ?_) ?_
          · show Steps p.tables e below (T24.setTop (mkF m 89 #[.val (.ref a), .val (.int p2)] [(.ref b20), (.ref b19), (.ref b19)])) _
            refine XS.dup X24.here hx rfl (hb hby d_method_3_89) rfl rfl ?_
            show Steps p.tables e below (T24.setTop (mkF m 90 #[.val (.ref a), .val (.int p2)] [(.ref b20), (.ref b20), (.ref b19), (.ref b19)])) _
            refine XS.iconst X24.here hx rfl (hb hby d_method_3_90) ?_
            show Steps p.tables e below (T24.setTop (mkF m 91 #[.val (.ref a), .val (.int p2)] [(.int (2 : Int32)), (.ref b20), (.ref b20), (.ref b19), (.ref b19)])) _
            refine XS.aloadN X24.here hx rfl (hb hby d_method_3_91) rfl rfl ?_
            show Steps p.tables e below (T24.setTop (mkF m 92 #[.val (.ref a), .val (.int p2)] [(.ref a), (.int (2 : Int32)), (.ref b20), (.ref b20), (.ref b19), (.ref b19)])) _
            refine XS.iconst X24.here hx rfl (hb hby d_method_3_92) ?_
            show Steps p.tables e below (T24.setTop (mkF m 93 #[.val (.ref a), .val (.int p2)] [(.int (2 : Int32)), (.ref a), (.int (2 : Int32)), (.ref b20), (.ref b20), (.ref b19), (.ref b19)])) _
            exact k
          obtain ⟨cl25, Ar25, q25, Sz25, Nn25, Hs25, Gt25⟩ := V23
          have hin25 : ¬ ((2 : Int32) < 0 ∨ cl25.slots.size ≤ ((2 : Int32)).toNatClampNeg) := inb_of Sz25 ⟨by decide, by decide⟩
          have hat25 : cl25.slots[((2 : Int32)).toNatClampNeg]? = some (.int c2) := Hs25.at hin25 rfl
          have st25 := X24.caload hx (j := (2 : Int32)) (v := (.int c2)) (by rw [e24]; exact Ar25.1) (State.isArrayOf_alike hZ.alike Ar25.2.1) Ar25.2.2 hin25 hat25 (g := (mkF m 93 #[.val (.ref a), .val (.int p2)] [(.int (2 : Int32)), (.ref a), (.int (2 : Int32)), (.ref b20), (.ref b20), (.ref b19), (.ref b19)])) rfl rfl (hb hby d_method_3_93)
          have V25 : Arv Z h24 a kc .char (5 : Int32) [(.int c0), (.int c1), (.int c2), (.int c3), (.int c4)] (.int (0 : Int32)) := ⟨cl25, Ar25, q25, Sz25, Nn25, Hs25, Gt25⟩
          refine own_go (B := T24.setTop (mkF m 94 #[.val (.ref a), .val (.int p2)] [(.int c2), (.int (2 : Int32)), (.ref b20), (.ref b20), (.ref b19), (.ref b19)])) st25 ?_
          obtain ⟨cl26, Ar26, q26, Sz26, Nn26, Hs26, Gt26⟩ := V24
          have hin26 : ¬ ((2 : Int32) < 0 ∨ cl26.slots.size ≤ ((2 : Int32)).toNatClampNeg) := inb_of Sz26 ⟨by decide, by decide⟩
          obtain ⟨T26, h26, X26, e26, W26, st26⟩ := stC X24 hx hZ e24 Ar26 (j := (2 : Int32)) hin26 (g := (mkF m 94 #[.val (.ref a), .val (.int p2)] [(.int c2), (.int (2 : Int32)), (.ref b20), (.ref b20), (.ref b19), (.ref b19)])) rfl rfl (hb hby d_method_3_94)
          have V26 := Arv.set Ar26 q26 Sz26 Nn26 Hs26 Gt26 (fits_nar_char _) W26 2 rfl (Nat.le_of_ble_eq_true rfl)
          rw [cc2] at V26
          have V26 : Arv Z h26 b20 k20 .char (3 : Int32) [(.int c0), (.int c1), (.int c2)] (.int (0 : Int32)) := V26
          replace A19 := A19.wr W26
          replace F19_value := F19_value.other W26 (Or.inl (Nat.ne_of_lt lt_b19_b20))
          replace F19_coder := F19_coder.other W26 (Or.inl (Nat.ne_of_lt lt_b19_b20))
          replace G20 := G20.wr W26
          replace V25 := V25.other W26 (Nat.ne_of_lt lt_a_b20)
          replace O := O.wr W26 g_b20
          replace hk := Nat.le_trans hk (Keep.of_wr W26).1
          replace KM := KM.wr W26 (Or.inr m_b20_20)
          replace K := K.wr W26 (Or.inr s_b20)
          replace N := Fr.snoc X26 N g_b20
          refine own_go (B := T26.setTop (mkF m 95 #[.val (.ref a), .val (.int p2)] [(.ref b20), (.ref b19), (.ref b19)])) st26 ?_
          have := hc0
          have := hc1
          have := hc2
          have hws : ∀ d ∈ StrChars.Road.words, d.before a0 Z = true := fun d hd => hw d ((by decide +kernel : ∀ d ∈ StrChars.Road.words, d ∈ tables_1) d hd)
          -- pc 95: java/lang/String.<init>
          obtain ⟨_, _, ⟨T27, L27, k27, n27⟩, -, X27, ⟨Lc27, hQ27, l27, y27, z27⟩, st27⟩ := X26.specialBack hx (y := (⟨"java/lang/String", "<init>", "([C)V"⟩ : MethodName)) rfl hown (mvT hZ (hw _ (List.mem_of_getElem? (i := 9) rfl))) (mvT hZ (hw _ (List.mem_of_getElem? (i := 10) rfl))) (mvT hZ (hw _ (List.mem_of_getElem? (i := 11) rfl))) (by decide) (StrChars.Road.backV (W := 1) hZ hws (kI := 4) (hw _ (List.mem_of_getElem? (i := 7) rfl)) (cs := ([c0, c1, c2] : List Int32)) (bs := ([c0, c1, c2] : List Int32).map (fun c => c.toInt8.toInt32)) (n := 3) g_b19 (own_oldsz O) A19 F19_value F19_coder V26 (S_C.ext O.2) hcs rfl rfl (by decide) (by decide) (by intro c hc; simp only [List.mem_cons, List.not_mem_nil, or_false] at hc; rcases hc with rfl | rfl | rfl <;> assumption) rfl (by decide) (by decide)) (g := (mkF m 95 #[.val (.ref a), .val (.int p2)] [(.ref b20), (.ref b19), (.ref b19)])) rfl (by rw [hml]; rfl) (Steps.refl _) (a := b19) (argsL := [(.ref b20)]) (rest := [(.ref b19)]) (lenOf pd_2 rfl) rfl (by show 2 * 0 + _ ≤ _; exact Nat.le_of_eq rfl) (hb hby d_method_3_95) (fun _ hWm => ⟨rfl, e26, (by decide : 2 + 1 ≤ _), (by decide : 7 + 3 ≤ _)⟩)
          dsimp only [Pt.U, Pt.locs, Pt.cells, Pt.slots] at X27 l27 y27 z27 st27 hQ27
          subst l27 y27 z27
          obtain ⟨rfl, Nq27, Kq27, Gq27_0, Gq27_1, t27, kb27, u27, fq27, nq27, Gq27_2, Gq27_3⟩ := hQ27
          replace N := Fr.app N Nq27
          have lt_b19_t27 : b19 < t27 := Nat.lt_of_lt_of_le A19.lt fq27
          have lt_b20_t27 : b20 < t27 := Nat.lt_of_lt_of_le G20.lt fq27
          have lt_a_t27 : a < t27 := Nat.lt_of_lt_of_le V25.lt fq27
          have g_t27 : n0 ≤ t27 := Nat.le_trans (own_oldsz O) fq27
          have m_t27_27 : h0.size ≤ t27 := Nat.le_trans KM.1 fq27
          have s_t27 : h0.size ≤ t27 := Nat.le_trans K.1 fq27
          replace A19 := A19.keep Kq27
          clear F19_value
          clear F19_coder
          replace G20 := G20.keep Kq27
          replace V25 := V25.keep Kq27 (ninS (Nat.ne_of_lt lt_a_b19) nin0)
          replace V26 := V26.keep Kq27 (ninS (Nat.ne_of_gt lt_b19_b20) nin0)
          replace O := O.keep Kq27 (allS g_b19 all0)
          replace hk := Nat.le_trans hk Kq27.1
          replace KM := KM.trans Kq27 (allS (Or.inr m_b19_19) all0)
          replace K := K.trans Kq27 (allS (Or.inr s_b19) all0)
          refine own_go (B := T27.setTop (mkF m 98 #[.val (.ref a), .val (.int p2)] [(.ref b19)])) (fun t k => st27.trans k) ?_
          obtain ⟨fs, hr, hrun, hended, hEnd⟩ := X27.leaveW hS hk (v := some (.ref b19)) (fun h => by rw [Bd.returns] at h; cases h)
          refine ⟨_, _, own_retA X27 hx rfl Bd.returns rfl (hb hby d_method_3_98) hr, hfin _ _ ⟨hrun, hended, _, _, rfl, ?_, ⟨hEnd.1, hEnd.2.1, hEnd.2.2.1, hEnd.2.2.2.mono (by decide) (by decide)⟩, own_emR rfl (Em.warm (M.keep KM) X27.warmed)⟩⟩
          show QTake Z a kc c0 c1 c2 c3 c4 p2 zc h0 n0 _ T27.heap _
          exact ⟨b19, t27, kb27, ([c0, c1, c2] : List Int32), rfl, N, K, s_b19, Gq27_0, Gq27_1, Gq27_2, Gq27_3, (Eq.symm ((if_neg t0).trans ((if_neg t1).trans ((if_neg t2).trans (if_pos t3))))), (by intro c hc; simp only [List.mem_cons, List.not_mem_nil, or_false] at hc; rcases hc with rfl | rfl | rfl <;> assumption), (Nat.le_of_ble_eq_true rfl)⟩
        · refine own_go (B := s₁.setTop (mkF m 101 #[.val (.ref a), .val (.int p2)] [(.int (4 : Int32)), (.int p2)])) (fun t k => ?_) ?_
          · show Steps p.tables e below (s₁.setTop (mkF m 67 #[.val (.ref a), .val (.int p2)] [(.int (3 : Int32)), (.int p2)])) _
            refine XS.icmpYes X0.here hx rfl (pc0 := 67) (pc' := 99) rfl (hb hby d_method_3_67) rfl (feq t3).2 (by decide) (by decide) ?_
            show Steps p.tables e below (s₁.setTop (mkF m 99 #[.val (.ref a), .val (.int p2)] [])) _
            refine XS.iloadN X0.here hx rfl (hb hby d_method_3_99) rfl ?_
            show Steps p.tables e below (s₁.setTop (mkF m 100 #[.val (.ref a), .val (.int p2)] [(.int p2)])) _
            refine XS.iconst X0.here hx rfl (hb hby d_method_3_100) ?_
            show Steps p.tables e below (s₁.setTop (mkF m 101 #[.val (.ref a), .val (.int p2)] [(.int (4 : Int32)), (.int p2)])) _
            exact k
          by_cases t4 : p2 = (4 : Int32)
          · refine own_go (B := s₁.setTop (mkF m 104 #[.val (.ref a), .val (.int p2)] [])) (fun t k => ?_) ?_
            · show Steps p.tables e below (s₁.setTop (mkF m 101 #[.val (.ref a), .val (.int p2)] [(.int (4 : Int32)), (.int p2)])) _
              refine XS.icmpNo X0.here hx rfl (hb hby d_method_3_101) rfl (teq t4).2 ?_
              show Steps p.tables e below (s₁.setTop (mkF m 104 #[.val (.ref a), .val (.int p2)] [])) _
              exact k
            obtain ⟨T29, h29, X29, e29, E29, A29, D29, -, st29⟩ := newO X0 hx hZ hown (hw _ (List.mem_of_getElem? (i := 6) rfl)) (hw _ (List.mem_of_getElem? (i := 7) rfl)) (hw _ (List.mem_of_getElem? (i := 8) rfl)) e0 (g := (mkF m 104 #[.val (.ref a), .val (.int p2)] [])) rfl (hb hby d_method_3_104) (by decide) (by decide)
            obtain ⟨b29, g29⟩ : ∃ z, z = h0.size := ⟨_, rfl⟩
            rw [← g29] at A29 D29 st29
            have lt_a_b29 : a < b29 := Nat.lt_of_lt_of_le V.lt (Nat.le_of_eq g29.symm)
            have g_b29 : n0 ≤ b29 := Nat.le_trans (own_oldsz O) (Nat.le_of_eq g29.symm)
            have m_b29_29 : h0.size ≤ b29 := Nat.le_trans KM.1 (Nat.le_of_eq g29.symm)
            have s_b29 : h0.size ≤ b29 := Nat.le_trans K.1 (Nat.le_of_eq g29.symm)
            replace V := V.ext E29
            replace O := O.ext E29
            replace hk := Nat.le_trans hk E29.1
            replace KM := KM.ext E29
            replace K := K.ext E29
            have F29_value : Fld Z h29 b29 "java/lang/String" "value" "[B" .null := D29 (Or.inr (hw _ (List.mem_of_getElem? (i := 21) rfl))) (ty := (.array .byte)) (by decide)
            have F29_coder : Fld Z h29 b29 "java/lang/String" "coder" "B" (.int (0 : Int32)) := D29 (Or.inr (hw _ (List.mem_of_getElem? (i := 22) rfl))) (ty := .byte) (by decide)
            refine own_go (B := T29.setTop (mkF m 107 #[.val (.ref a), .val (.int p2)] [(.ref b29)])) st29 ?_
            refine own_go (B := T29.setTop (mkF m 109 #[.val (.ref a), .val (.int p2)] [(.int (4 : Int32)), (.ref b29), (.ref b29)])) (fun t k => ?_) ?_
            · show Steps p.tables e below (T29.setTop (mkF m 107 #[.val (.ref a), .val (.int p2)] [(.ref b29)])) _
              refine XS.dup X29.here hx rfl (hb hby d_method_3_107) rfl rfl ?_
              show Steps p.tables e below (T29.setTop (mkF m 108 #[.val (.ref a), .val (.int p2)] [(.ref b29), (.ref b29)])) _
              refine XS.iconst X29.here hx rfl (hb hby d_method_3_108) ?_
              show Steps p.tables e below (T29.setTop (mkF m 109 #[.val (.ref a), .val (.int p2)] [(.int (4 : Int32)), (.ref b29), (.ref b29)])) _
              exact k
            obtain ⟨T30, h30, k30, X30, e30, E30, A30, G30, st30⟩ := newPE X29 hx hZ (hw _ (List.mem_of_getElem? (i := 1) rfl)) e29 (g := (mkF m 109 #[.val (.ref a), .val (.int p2)] [(.int (4 : Int32)), (.ref b29), (.ref b29)])) rfl (hb hby d_method_3_109) rfl (by decide) (cap := 4) (by decide) (by decide) (by decide) (by decide) (ad := "[C") (by decide)
            obtain ⟨b30, g30⟩ : ∃ z, z = h29.size := ⟨_, rfl⟩
            rw [← g30] at A30 G30 st30
            have lt_a_b30 : a < b30 := Nat.lt_of_lt_of_le V.lt (Nat.le_of_eq g30.symm)
            have lt_b29_b30 : b29 < b30 := Nat.lt_of_lt_of_le A29.lt (Nat.le_of_eq g30.symm)
            have g_b30 : n0 ≤ b30 := Nat.le_trans (own_oldsz O) (Nat.le_of_eq g30.symm)
            have m_b30_30 : h0.size ≤ b30 := Nat.le_trans KM.1 (Nat.le_of_eq g30.symm)
            have s_b30 : h0.size ≤ b30 := Nat.le_trans K.1 (Nat.le_of_eq g30.symm)
            replace V := V.ext E30
            replace A29 := A29.ext E30
            replace F29_value := F29_value.ext E30
            replace F29_coder := F29_coder.ext E30
            replace O := O.ext E30
            replace hk := Nat.le_trans hk E30.1
            replace KM := KM.ext E30
            replace K := K.ext E30
            have V30 : Arv Z h30 b30 k30 .char (4 : Int32) [(.int (0 : Int32)), (.int (0 : Int32)), (.int (0 : Int32)), (.int (0 : Int32))] (.int (0 : Int32)) := (Arv.new A30 (by decide)).pad (pad_rep [] (.int (0 : Int32)) 4)
            refine own_go (B := T30.setTop (mkF m 111 #[.val (.ref a), .val (.int p2)] [(.ref b30), (.ref b29), (.ref b29)])) st30 ?_
            refine own_go (B := T30.setTop (mkF m 115 #[.val (.ref a), .val (.int p2)] [(.int (0 : Int32)), (.ref a), (.int (0 : Int32)), (.ref b30), (.ref b30), (.ref b29), (.ref b29)])) (fun t k => ?_) ?_
            · show Steps p.tables e below (T30.setTop (mkF m 111 #[.val (.ref a), .val (.int p2)] [(.ref b30), (.ref b29), (.ref b29)])) _
              refine XS.dup X30.here hx rfl (hb hby d_method_3_111) rfl rfl ?_
              show Steps p.tables e below (T30.setTop (mkF m 112 #[.val (.ref a), .val (.int p2)] [(.ref b30), (.ref b30), (.ref b29), (.ref b29)])) _
              refine XS.iconst X30.here hx rfl (hb hby d_method_3_112) ?_
              show Steps p.tables e below (T30.setTop (mkF m 113 #[.val (.ref a), .val (.int p2)] [(.int (0 : Int32)), (.ref b30), (.ref b30), (.ref b29), (.ref b29)])) _
              refine XS.aloadN X30.here hx rfl (hb hby d_method_3_113) rfl rfl ?_
              show Steps p.tables e below (T30.setTop (mkF m 114 #[.val (.ref a), .val (.int p2)] [(.ref a), (.int (0 : Int32)), (.ref b30), (.ref b30), (.ref b29), (.ref b29)])) _
              refine XS.iconst X30.here hx rfl (hb hby d_method_3_114) ?_
              show Steps p.tables e below (T30.setTop (mkF m 115 #[.val (.ref a), .val (.int p2)] [(.int (0 : Int32)), (.ref a), (.int (0 : Int32)), (.ref b30), (.ref b30), (.ref b29), (.ref b29)])) _
              exact k
            obtain ⟨cl31, Ar31, q31, Sz31, Nn31, Hs31, Gt31⟩ := V
            have hin31 : ¬ ((0 : Int32) < 0 ∨ cl31.slots.size ≤ ((0 : Int32)).toNatClampNeg) := inb_of Sz31 ⟨by decide, by decide⟩
            have hat31 : cl31.slots[((0 : Int32)).toNatClampNeg]? = some (.int c0) := Hs31.at hin31 rfl
            have st31 := X30.caload hx (j := (0 : Int32)) (v := (.int c0)) (by rw [e30]; exact Ar31.1) (State.isArrayOf_alike hZ.alike Ar31.2.1) Ar31.2.2 hin31 hat31 (g := (mkF m 115 #[.val (.ref a), .val (.int p2)] [(.int (0 : Int32)), (.ref a), (.int (0 : Int32)), (.ref b30), (.ref b30), (.ref b29), (.ref b29)])) rfl rfl (hb hby d_method_3_115)
            have V31 : Arv Z h30 a kc .char (5 : Int32) [(.int c0), (.int c1), (.int c2), (.int c3), (.int c4)] (.int (0 : Int32)) := ⟨cl31, Ar31, q31, Sz31, Nn31, Hs31, Gt31⟩
            refine own_go (B := T30.setTop (mkF m 116 #[.val (.ref a), .val (.int p2)] [(.int c0), (.int (0 : Int32)), (.ref b30), (.ref b30), (.ref b29), (.ref b29)])) st31 ?_
            obtain ⟨cl32, Ar32, q32, Sz32, Nn32, Hs32, Gt32⟩ := V30
            have hin32 : ¬ ((0 : Int32) < 0 ∨ cl32.slots.size ≤ ((0 : Int32)).toNatClampNeg) := inb_of Sz32 ⟨by decide, by decide⟩
            obtain ⟨T32, h32, X32, e32, W32, st32⟩ := stC X30 hx hZ e30 Ar32 (j := (0 : Int32)) hin32 (g := (mkF m 116 #[.val (.ref a), .val (.int p2)] [(.int c0), (.int (0 : Int32)), (.ref b30), (.ref b30), (.ref b29), (.ref b29)])) rfl rfl (hb hby d_method_3_116)
            have V32 := Arv.set Ar32 q32 Sz32 Nn32 Hs32 Gt32 (fits_nar_char _) W32 0 rfl (Nat.le_of_ble_eq_true rfl)
            rw [cc0] at V32
            have V32 : Arv Z h32 b30 k30 .char (4 : Int32) [(.int c0), (.int (0 : Int32)), (.int (0 : Int32)), (.int (0 : Int32))] (.int (0 : Int32)) := V32
            replace A29 := A29.wr W32
            replace F29_value := F29_value.other W32 (Or.inl (Nat.ne_of_lt lt_b29_b30))
            replace F29_coder := F29_coder.other W32 (Or.inl (Nat.ne_of_lt lt_b29_b30))
            replace G30 := G30.wr W32
            replace V31 := V31.other W32 (Nat.ne_of_lt lt_a_b30)
            replace O := O.wr W32 g_b30
            replace hk := Nat.le_trans hk (Keep.of_wr W32).1
            replace KM := KM.wr W32 (Or.inr m_b30_30)
            replace K := K.wr W32 (Or.inr s_b30)
            replace N := Fr.snoc X32 N g_b30
            refine own_go (B := T32.setTop (mkF m 117 #[.val (.ref a), .val (.int p2)] [(.ref b30), (.ref b29), (.ref b29)])) st32 ?_
            refine own_go (B := T32.setTop (mkF m 121 #[.val (.ref a), .val (.int p2)] [(.int (1 : Int32)), (.ref a), (.int (1 : Int32)), (.ref b30), (.ref b30), (.ref b29), (.ref b29)])) (fun t k => ?_) ?_
            · show Steps p.tables e below (T32.setTop (mkF m 117 #[.val (.ref a), .val (.int p2)] [(.ref b30), (.ref b29), (.ref b29)])) _
              refine XS.dup X32.here hx rfl (hb hby d_method_3_117) rfl rfl ?_
              show Steps p.tables e below (T32.setTop (mkF m 118 #[.val (.ref a), .val (.int p2)] [(.ref b30), (.ref b30), (.ref b29), (.ref b29)])) _
              refine XS.iconst X32.here hx rfl (hb hby d_method_3_118) ?_
              show Steps p.tables e below (T32.setTop (mkF m 119 #[.val (.ref a), .val (.int p2)] [(.int (1 : Int32)), (.ref b30), (.ref b30), (.ref b29), (.ref b29)])) _
              refine XS.aloadN X32.here hx rfl (hb hby d_method_3_119) rfl rfl ?_
              show Steps p.tables e below (T32.setTop (mkF m 120 #[.val (.ref a), .val (.int p2)] [(.ref a), (.int (1 : Int32)), (.ref b30), (.ref b30), (.ref b29), (.ref b29)])) _
              refine XS.iconst X32.here hx rfl (hb hby d_method_3_120) ?_
              show Steps p.tables e below (T32.setTop (mkF m 121 #[.val (.ref a), .val (.int p2)] [(.int (1 : Int32)), (.ref a), (.int (1 : Int32)), (.ref b30), (.ref b30), (.ref b29), (.ref b29)])) _
              exact k
            obtain ⟨cl33, Ar33, q33, Sz33, Nn33, Hs33, Gt33⟩ := V31
            have hin33 : ¬ ((1 : Int32) < 0 ∨ cl33.slots.size ≤ ((1 : Int32)).toNatClampNeg) := inb_of Sz33 ⟨by decide, by decide⟩
            have hat33 : cl33.slots[((1 : Int32)).toNatClampNeg]? = some (.int c1) := Hs33.at hin33 rfl
            have st33 := X32.caload hx (j := (1 : Int32)) (v := (.int c1)) (by rw [e32]; exact Ar33.1) (State.isArrayOf_alike hZ.alike Ar33.2.1) Ar33.2.2 hin33 hat33 (g := (mkF m 121 #[.val (.ref a), .val (.int p2)] [(.int (1 : Int32)), (.ref a), (.int (1 : Int32)), (.ref b30), (.ref b30), (.ref b29), (.ref b29)])) rfl rfl (hb hby d_method_3_121)
            have V33 : Arv Z h32 a kc .char (5 : Int32) [(.int c0), (.int c1), (.int c2), (.int c3), (.int c4)] (.int (0 : Int32)) := ⟨cl33, Ar33, q33, Sz33, Nn33, Hs33, Gt33⟩
            refine own_go (B := T32.setTop (mkF m 122 #[.val (.ref a), .val (.int p2)] [(.int c1), (.int (1 : Int32)), (.ref b30), (.ref b30), (.ref b29), (.ref b29)])) st33 ?_
            obtain ⟨cl34, Ar34, q34, Sz34, Nn34, Hs34, Gt34⟩ := V32
            have hin34 : ¬ ((1 : Int32) < 0 ∨ cl34.slots.size ≤ ((1 : Int32)).toNatClampNeg) := inb_of Sz34 ⟨by decide, by decide⟩
            obtain ⟨T34, h34, X34, e34, W34, st34⟩ := stC X32 hx hZ e32 Ar34 (j := (1 : Int32)) hin34 (g := (mkF m 122 #[.val (.ref a), .val (.int p2)] [(.int c1), (.int (1 : Int32)), (.ref b30), (.ref b30), (.ref b29), (.ref b29)])) rfl rfl (hb hby d_method_3_122)
            have V34 := Arv.set Ar34 q34 Sz34 Nn34 Hs34 Gt34 (fits_nar_char _) W34 1 rfl (Nat.le_of_ble_eq_true rfl)
            rw [cc1] at V34
            have V34 : Arv Z h34 b30 k30 .char (4 : Int32) [(.int c0), (.int c1), (.int (0 : Int32)), (.int (0 : Int32))] (.int (0 : Int32)) := V34
            replace A29 := A29.wr W34
            replace F29_value := F29_value.other W34 (Or.inl (Nat.ne_of_lt lt_b29_b30))
            replace F29_coder := F29_coder.other W34 (Or.inl (Nat.ne_of_lt lt_b29_b30))
            replace G30 := G30.wr W34
            replace V33 := V33.other W34 (Nat.ne_of_lt lt_a_b30)
            replace O := O.wr W34 g_b30
            replace hk := Nat.le_trans hk (Keep.of_wr W34).1
            replace KM := KM.wr W34 (Or.inr m_b30_30)
            replace K := K.wr W34 (Or.inr s_b30)
            replace N := Fr.snoc X34 N g_b30
            refine own_go (B := T34.setTop (mkF m 123 #[.val (.ref a), .val (.int p2)] [(.ref b30), (.ref b29), (.ref b29)])) st34 ?_
            refine own_go (B := T34.setTop (mkF m 127 #[.val (.ref a), .val (.int p2)] [(.int (2 : Int32)), (.ref a), (.int (2 : Int32)), (.ref b30), (.ref b30), (.ref b29), (.ref b29)])) (fun t k => ?_) ?_
            · show Steps p.tables e below (T34.setTop (mkF m 123 #[.val (.ref a), .val (.int p2)] [(.ref b30), (.ref b29), (.ref b29)])) _
              refine XS.dup X34.here hx rfl (hb hby d_method_3_123) rfl rfl ?_
              show Steps p.tables e below (T34.setTop (mkF m 124 #[.val (.ref a), .val (.int p2)] [(.ref b30), (.ref b30), (.ref b29), (.ref b29)])) _
              refine XS.iconst X34.here hx rfl (hb hby d_method_3_124) ?_
              show Steps p.tables e below (T34.setTop (mkF m 125 #[.val (.ref a), .val (.int p2)] [(.int (2 : Int32)), (.ref b30), (.ref b30), (.ref b29), (.ref b29)])) _
              refine XS.aloadN X34.here hx rfl (hb hby d_method_3_125) rfl rfl ?_
              show Steps p.tables e below (T34.setTop (mkF m 126 #[.val (.ref a), .val (.int p2)] [(.ref a), (.int (2 : Int32)), (.ref b30), (.ref b30), (.ref b29), (.ref b29)])) _
              refine XS.iconst X34.here hx rfl (hb hby d_method_3_126) ?_
              show Steps p.tables e below (T34.setTop (mkF m 127 #[.val (.ref a), .val (.int p2)] [(.int (2 : Int32)), (.ref a), (.int (2 : Int32)), (.ref b30), (.ref b30), (.ref b29), (.ref b29)])) _
              exact k
            obtain ⟨cl35, Ar35, q35, Sz35, Nn35, Hs35, Gt35⟩ := V33
            have hin35 : ¬ ((2 : Int32) < 0 ∨ cl35.slots.size ≤ ((2 : Int32)).toNatClampNeg) := inb_of Sz35 ⟨by decide, by decide⟩
            have hat35 : cl35.slots[((2 : Int32)).toNatClampNeg]? = some (.int c2) := Hs35.at hin35 rfl
            have st35 := X34.caload hx (j := (2 : Int32)) (v := (.int c2)) (by rw [e34]; exact Ar35.1) (State.isArrayOf_alike hZ.alike Ar35.2.1) Ar35.2.2 hin35 hat35 (g := (mkF m 127 #[.val (.ref a), .val (.int p2)] [(.int (2 : Int32)), (.ref a), (.int (2 : Int32)), (.ref b30), (.ref b30), (.ref b29), (.ref b29)])) rfl rfl (hb hby d_method_3_127)
            have V35 : Arv Z h34 a kc .char (5 : Int32) [(.int c0), (.int c1), (.int c2), (.int c3), (.int c4)] (.int (0 : Int32)) := ⟨cl35, Ar35, q35, Sz35, Nn35, Hs35, Gt35⟩
            refine own_go (B := T34.setTop (mkF m 128 #[.val (.ref a), .val (.int p2)] [(.int c2), (.int (2 : Int32)), (.ref b30), (.ref b30), (.ref b29), (.ref b29)])) st35 ?_
            obtain ⟨cl36, Ar36, q36, Sz36, Nn36, Hs36, Gt36⟩ := V34
            have hin36 : ¬ ((2 : Int32) < 0 ∨ cl36.slots.size ≤ ((2 : Int32)).toNatClampNeg) := inb_of Sz36 ⟨by decide, by decide⟩
            obtain ⟨T36, h36, X36, e36, W36, st36⟩ := stC X34 hx hZ e34 Ar36 (j := (2 : Int32)) hin36 (g := (mkF m 128 #[.val (.ref a), .val (.int p2)] [(.int c2), (.int (2 : Int32)), (.ref b30), (.ref b30), (.ref b29), (.ref b29)])) rfl rfl (hb hby d_method_3_128)
            have V36 := Arv.set Ar36 q36 Sz36 Nn36 Hs36 Gt36 (fits_nar_char _) W36 2 rfl (Nat.le_of_ble_eq_true rfl)
            rw [cc2] at V36
            have V36 : Arv Z h36 b30 k30 .char (4 : Int32) [(.int c0), (.int c1), (.int c2), (.int (0 : Int32))] (.int (0 : Int32)) := V36
            replace A29 := A29.wr W36
            replace F29_value := F29_value.other W36 (Or.inl (Nat.ne_of_lt lt_b29_b30))
            replace F29_coder := F29_coder.other W36 (Or.inl (Nat.ne_of_lt lt_b29_b30))
            replace G30 := G30.wr W36
            replace V35 := V35.other W36 (Nat.ne_of_lt lt_a_b30)
            replace O := O.wr W36 g_b30
            replace hk := Nat.le_trans hk (Keep.of_wr W36).1
            replace KM := KM.wr W36 (Or.inr m_b30_30)
            replace K := K.wr W36 (Or.inr s_b30)
            replace N := Fr.snoc X36 N g_b30
            refine own_go (B := T36.setTop (mkF m 129 #[.val (.ref a), .val (.int p2)] [(.ref b30), (.ref b29), (.ref b29)])) st36 ?_
            refine own_go (B := T36.setTop (mkF m 133 #[.val (.ref a), .val (.int p2)] [(.int (3 : Int32)), (.ref a), (.int (3 : Int32)), (.ref b30), (.ref b30), (.ref b29), (.ref b29)])) (fun t k => ?_) ?_
            · show Steps p.tables e below (T36.setTop (mkF m 129 #[.val (.ref a), .val (.int p2)] [(.ref b30), (.ref b29), (.ref b29)])) _
              refine XS.dup X36.here hx rfl (hb hby d_method_3_129) rfl rfl ?_
              show Steps p.tables e below (T36.setTop (mkF m 130 #[.val (.ref a), .val (.int p2)] [(.ref b30), (.ref b30), (.ref b29), (.ref b29)])) _
              refine XS.iconst X36.here hx rfl (hb hby d_method_3_130) ?_
              show Steps p.tables e below (T36.setTop (mkF m 131 #[.val (.ref a), .val (.int p2)] [(.int (3 : Int32)), (.ref b30), (.ref b30), (.ref b29), (.ref b29)])) _
              refine XS.aloadN X36.here hx rfl (hb hby d_method_3_131) rfl rfl ?_
              show Steps p.tables e below (T36.setTop (mkF m 132 #[.val (.ref a), .val (.int p2)] [(.ref a), (.int (3 : Int32)), (.ref b30), (.ref b30), (.ref b29), (.ref b29)])) _
              refine XS.iconst X36.here hx rfl (hb hby d_method_3_132) ?_
              show Steps p.tables e below (T36.setTop (mkF m 133 #[.val (.ref a), .val (.int p2)] [(.int (3 : Int32)), (.ref a), (.int (3 : Int32)), (.ref b30), (.ref b30), (.ref b29), (.ref b29)])) _
              exact k
            obtain ⟨cl37, Ar37, q37, Sz37, Nn37, Hs37, Gt37⟩ := V35
            have hin37 : ¬ ((3 : Int32) < 0 ∨ cl37.slots.size ≤ ((3 : Int32)).toNatClampNeg) := inb_of Sz37 ⟨by decide, by decide⟩
            have hat37 : cl37.slots[((3 : Int32)).toNatClampNeg]? = some (.int c3) := Hs37.at hin37 rfl
            have st37 := X36.caload hx (j := (3 : Int32)) (v := (.int c3)) (by rw [e36]; exact Ar37.1) (State.isArrayOf_alike hZ.alike Ar37.2.1) Ar37.2.2 hin37 hat37 (g := (mkF m 133 #[.val (.ref a), .val (.int p2)] [(.int (3 : Int32)), (.ref a), (.int (3 : Int32)), (.ref b30), (.ref b30), (.ref b29), (.ref b29)])) rfl rfl (hb hby d_method_3_133)
            have V37 : Arv Z h36 a kc .char (5 : Int32) [(.int c0), (.int c1), (.int c2), (.int c3), (.int c4)] (.int (0 : Int32)) := ⟨cl37, Ar37, q37, Sz37, Nn37, Hs37, Gt37⟩
            refine own_go (B := T36.setTop (mkF m 134 #[.val (.ref a), .val (.int p2)] [(.int c3), (.int (3 : Int32)), (.ref b30), (.ref b30), (.ref b29), (.ref b29)])) st37 ?_
            obtain ⟨cl38, Ar38, q38, Sz38, Nn38, Hs38, Gt38⟩ := V36
            have hin38 : ¬ ((3 : Int32) < 0 ∨ cl38.slots.size ≤ ((3 : Int32)).toNatClampNeg) := inb_of Sz38 ⟨by decide, by decide⟩
            obtain ⟨T38, h38, X38, e38, W38, st38⟩ := stC X36 hx hZ e36 Ar38 (j := (3 : Int32)) hin38 (g := (mkF m 134 #[.val (.ref a), .val (.int p2)] [(.int c3), (.int (3 : Int32)), (.ref b30), (.ref b30), (.ref b29), (.ref b29)])) rfl rfl (hb hby d_method_3_134)
            have V38 := Arv.set Ar38 q38 Sz38 Nn38 Hs38 Gt38 (fits_nar_char _) W38 3 rfl (Nat.le_of_ble_eq_true rfl)
            rw [cc3] at V38
            have V38 : Arv Z h38 b30 k30 .char (4 : Int32) [(.int c0), (.int c1), (.int c2), (.int c3)] (.int (0 : Int32)) := V38
            replace A29 := A29.wr W38
            replace F29_value := F29_value.other W38 (Or.inl (Nat.ne_of_lt lt_b29_b30))
            replace F29_coder := F29_coder.other W38 (Or.inl (Nat.ne_of_lt lt_b29_b30))
            replace G30 := G30.wr W38
            replace V37 := V37.other W38 (Nat.ne_of_lt lt_a_b30)
            replace O := O.wr W38 g_b30
            replace hk := Nat.le_trans hk (Keep.of_wr W38).1
            replace KM := KM.wr W38 (Or.inr m_b30_30)
            replace K := K.wr W38 (Or.inr s_b30)
            replace N := Fr.snoc X38 N g_b30
            refine own_go (B := T38.setTop (mkF m 135 #[.val (.ref a), .val (.int p2)] [(.ref b30), (.ref b29), (.ref b29)])) st38 ?_
            have := hc0
            have := hc1
            have := hc2
            have := hc3
            have hws : ∀ d ∈ StrChars.Road.words, d.before a0 Z = true := fun d hd => hw d ((by decide +kernel : ∀ d ∈ StrChars.Road.words, d ∈ tables_1) d hd)
            -- pc 135: java/lang/String.<init>
            obtain ⟨_, _, ⟨T39, L39, k39, n39⟩, -, X39, ⟨Lc39, hQ39, l39, y39, z39⟩, st39⟩ := X38.specialBack hx (y := (⟨"java/lang/String", "<init>", "([C)V"⟩ : MethodName)) rfl hown (mvT hZ (hw _ (List.mem_of_getElem? (i := 9) rfl))) (mvT hZ (hw _ (List.mem_of_getElem? (i := 10) rfl))) (mvT hZ (hw _ (List.mem_of_getElem? (i := 11) rfl))) (by decide) (StrChars.Road.backV (W := 1) hZ hws (kI := 4) (hw _ (List.mem_of_getElem? (i := 7) rfl)) (cs := ([c0, c1, c2, c3] : List Int32)) (bs := ([c0, c1, c2, c3] : List Int32).map (fun c => c.toInt8.toInt32)) (n := 4) g_b29 (own_oldsz O) A29 F29_value F29_coder V38 (S_C.ext O.2) hcs rfl rfl (by decide) (by decide) (by intro c hc; simp only [List.mem_cons, List.not_mem_nil, or_false] at hc; rcases hc with rfl | rfl | rfl | rfl <;> assumption) rfl (by decide) (by decide)) (g := (mkF m 135 #[.val (.ref a), .val (.int p2)] [(.ref b30), (.ref b29), (.ref b29)])) rfl (by rw [hml]; rfl) (Steps.refl _) (a := b29) (argsL := [(.ref b30)]) (rest := [(.ref b29)]) (lenOf pd_2 rfl) rfl (by show 2 * 0 + _ ≤ _; exact Nat.le_of_eq rfl) (hb hby d_method_3_135) (fun _ hWm => ⟨rfl, e38, (by decide : 2 + 1 ≤ _), (by decide : 8 + 4 ≤ _)⟩)
            dsimp only [Pt.U, Pt.locs, Pt.cells, Pt.slots] at X39 l39 y39 z39 st39 hQ39
            subst l39 y39 z39
            obtain ⟨rfl, Nq39, Kq39, Gq39_0, Gq39_1, t39, kb39, u39, fq39, nq39, Gq39_2, Gq39_3⟩ := hQ39
            replace N := Fr.app N Nq39
            have lt_b29_t39 : b29 < t39 := Nat.lt_of_lt_of_le A29.lt fq39
            have lt_b30_t39 : b30 < t39 := Nat.lt_of_lt_of_le G30.lt fq39
            have lt_a_t39 : a < t39 := Nat.lt_of_lt_of_le V37.lt fq39
            have g_t39 : n0 ≤ t39 := Nat.le_trans (own_oldsz O) fq39
            have m_t39_39 : h0.size ≤ t39 := Nat.le_trans KM.1 fq39
            have s_t39 : h0.size ≤ t39 := Nat.le_trans K.1 fq39
            replace A29 := A29.keep Kq39
            clear F29_value
            clear F29_coder
            replace G30 := G30.keep Kq39
            replace V37 := V37.keep Kq39 (ninS (Nat.ne_of_lt lt_a_b29) nin0)
            replace V38 := V38.keep Kq39 (ninS (Nat.ne_of_gt lt_b29_b30) nin0)
            replace O := O.keep Kq39 (allS g_b29 all0)
            replace hk := Nat.le_trans hk Kq39.1
            replace KM := KM.trans Kq39 (allS (Or.inr m_b29_29) all0)
            replace K := K.trans Kq39 (allS (Or.inr s_b29) all0)
            refine own_go (B := T39.setTop (mkF m 138 #[.val (.ref a), .val (.int p2)] [(.ref b29)])) (fun t k => st39.trans k) ?_
            obtain ⟨fs, hr, hrun, hended, hEnd⟩ := X39.leaveW hS hk (v := some (.ref b29)) (fun h => by rw [Bd.returns] at h; cases h)
            refine ⟨_, _, own_retA X39 hx rfl Bd.returns rfl (hb hby d_method_3_138) hr, hfin _ _ ⟨hrun, hended, _, _, rfl, ?_, ⟨hEnd.1, hEnd.2.1, hEnd.2.2.1, hEnd.2.2.2.mono (by decide) (by decide)⟩, own_emR rfl (Em.warm (M.keep KM) X39.warmed)⟩⟩
            show QTake Z a kc c0 c1 c2 c3 c4 p2 zc h0 n0 _ T39.heap _
            exact ⟨b29, t39, kb39, ([c0, c1, c2, c3] : List Int32), rfl, N, K, s_b29, Gq39_0, Gq39_1, Gq39_2, Gq39_3, (Eq.symm ((if_neg t0).trans ((if_neg t1).trans ((if_neg t2).trans ((if_neg t3).trans (if_pos t4)))))), (by intro c hc; simp only [List.mem_cons, List.not_mem_nil, or_false] at hc; rcases hc with rfl | rfl | rfl | rfl <;> assumption), (Nat.le_of_ble_eq_true rfl)⟩
          · refine own_go (B := s₁.setTop (mkF m 139 #[.val (.ref a), .val (.int p2)] [])) (fun t k => ?_) ?_
            · show Steps p.tables e below (s₁.setTop (mkF m 101 #[.val (.ref a), .val (.int p2)] [(.int (4 : Int32)), (.int p2)])) _
              refine XS.icmpYes X0.here hx rfl (pc0 := 101) (pc' := 139) rfl (hb hby d_method_3_101) rfl (feq t4).2 (by decide) (by decide) ?_
              show Steps p.tables e below (s₁.setTop (mkF m 139 #[.val (.ref a), .val (.int p2)] [])) _
              exact k
            obtain ⟨T41, h41, X41, e41, E41, A41, D41, -, st41⟩ := newO X0 hx hZ hown (hw _ (List.mem_of_getElem? (i := 6) rfl)) (hw _ (List.mem_of_getElem? (i := 7) rfl)) (hw _ (List.mem_of_getElem? (i := 8) rfl)) e0 (g := (mkF m 139 #[.val (.ref a), .val (.int p2)] [])) rfl (hb hby d_method_3_139) (by decide) (by decide)
            obtain ⟨b41, g41⟩ : ∃ z, z = h0.size := ⟨_, rfl⟩
            rw [← g41] at A41 D41 st41
            have lt_a_b41 : a < b41 := Nat.lt_of_lt_of_le V.lt (Nat.le_of_eq g41.symm)
            have g_b41 : n0 ≤ b41 := Nat.le_trans (own_oldsz O) (Nat.le_of_eq g41.symm)
            have m_b41_41 : h0.size ≤ b41 := Nat.le_trans KM.1 (Nat.le_of_eq g41.symm)
            have s_b41 : h0.size ≤ b41 := Nat.le_trans K.1 (Nat.le_of_eq g41.symm)
            replace V := V.ext E41
            replace O := O.ext E41
            replace hk := Nat.le_trans hk E41.1
            replace KM := KM.ext E41
            replace K := K.ext E41
            have F41_value : Fld Z h41 b41 "java/lang/String" "value" "[B" .null := D41 (Or.inr (hw _ (List.mem_of_getElem? (i := 21) rfl))) (ty := (.array .byte)) (by decide)
            have F41_coder : Fld Z h41 b41 "java/lang/String" "coder" "B" (.int (0 : Int32)) := D41 (Or.inr (hw _ (List.mem_of_getElem? (i := 22) rfl))) (ty := .byte) (by decide)
            refine own_go (B := T41.setTop (mkF m 142 #[.val (.ref a), .val (.int p2)] [(.ref b41)])) st41 ?_
            refine own_go (B := T41.setTop (mkF m 144 #[.val (.ref a), .val (.int p2)] [(.int (5 : Int32)), (.ref b41), (.ref b41)])) (fun t k => ?_) ?_
            · show Steps p.tables e below (T41.setTop (mkF m 142 #[.val (.ref a), .val (.int p2)] [(.ref b41)])) _
              refine XS.dup X41.here hx rfl (hb hby d_method_3_142) rfl rfl ?_
              show Steps p.tables e below (T41.setTop (mkF m 143 #[.val (.ref a), .val (.int p2)] [(.ref b41), (.ref b41)])) _
              refine XS.iconst X41.here hx rfl (hb hby d_method_3_143) ?_
              show Steps p.tables e below (T41.setTop (mkF m 144 #[.val (.ref a), .val (.int p2)] [(.int (5 : Int32)), (.ref b41), (.ref b41)])) _
              exact k
            obtain ⟨T42, h42, k42, X42, e42, E42, A42, G42, st42⟩ := newPE X41 hx hZ (hw _ (List.mem_of_getElem? (i := 1) rfl)) e41 (g := (mkF m 144 #[.val (.ref a), .val (.int p2)] [(.int (5 : Int32)), (.ref b41), (.ref b41)])) rfl (hb hby d_method_3_144) rfl (by decide) (cap := 5) (by decide) (by decide) (by decide) (by decide) (ad := "[C") (by decide)
            obtain ⟨b42, g42⟩ : ∃ z, z = h41.size := ⟨_, rfl⟩
            rw [← g42] at A42 G42 st42
            have lt_a_b42 : a < b42 := Nat.lt_of_lt_of_le V.lt (Nat.le_of_eq g42.symm)
            have lt_b41_b42 : b41 < b42 := Nat.lt_of_lt_of_le A41.lt (Nat.le_of_eq g42.symm)
            have g_b42 : n0 ≤ b42 := Nat.le_trans (own_oldsz O) (Nat.le_of_eq g42.symm)
            have m_b42_42 : h0.size ≤ b42 := Nat.le_trans KM.1 (Nat.le_of_eq g42.symm)
            have s_b42 : h0.size ≤ b42 := Nat.le_trans K.1 (Nat.le_of_eq g42.symm)
            replace V := V.ext E42
            replace A41 := A41.ext E42
            replace F41_value := F41_value.ext E42
            replace F41_coder := F41_coder.ext E42
            replace O := O.ext E42
            replace hk := Nat.le_trans hk E42.1
            replace KM := KM.ext E42
            replace K := K.ext E42
            have V42 : Arv Z h42 b42 k42 .char (5 : Int32) [(.int (0 : Int32)), (.int (0 : Int32)), (.int (0 : Int32)), (.int (0 : Int32)), (.int (0 : Int32))] (.int (0 : Int32)) := (Arv.new A42 (by decide)).pad (pad_rep [] (.int (0 : Int32)) 5)
            refine own_go (B := T42.setTop (mkF m 146 #[.val (.ref a), .val (.int p2)] [(.ref b42), (.ref b41), (.ref b41)])) st42 ?_
            refine own_go (B := T42.setTop (mkF m 150 #[.val (.ref a), .val (.int p2)] [(.int (0 : Int32)), (.ref a), (.int (0 : Int32)), (.ref b42), (.ref b42), (.ref b41), (.ref b41)])) (fun t k => ?_) ?_
            · show Steps p.tables e below (T42.setTop (mkF m 146 #[.val (.ref a), .val (.int p2)] [(.ref b42), (.ref b41), (.ref b41)])) _
              refine XS.dup X42.here hx rfl (hb hby d_method_3_146) rfl rfl ?_
              show Steps p.tables e below (T42.setTop (mkF m 147 #[.val (.ref a), .val (.int p2)] [(.ref b42), (.ref b42), (.ref b41), (.ref b41)])) _
              refine XS.iconst X42.here hx rfl (hb hby d_method_3_147) ?_
              show Steps p.tables e below (T42.setTop (mkF m 148 #[.val (.ref a), .val (.int p2)] [(.int (0 : Int32)), (.ref b42), (.ref b42), (.ref b41), (.ref b41)])) _
              refine XS.aloadN X42.here hx rfl (hb hby d_method_3_148) rfl rfl ?_
              show Steps p.tables e below (T42.setTop (mkF m 149 #[.val (.ref a), .val (.int p2)] [(.ref a), (.int (0 : Int32)), (.ref b42), (.ref b42), (.ref b41), (.ref b41)])) _
              refine XS.iconst X42.here hx rfl (hb hby d_method_3_149) ?_
              show Steps p.tables e below (T42.setTop (mkF m 150 #[.val (.ref a), .val (.int p2)] [(.int (0 : Int32)), (.ref a), (.int (0 : Int32)), (.ref b42), (.ref b42), (.ref b41), (.ref b41)])) _
              exact k
            obtain ⟨cl43, Ar43, q43, Sz43, Nn43, Hs43, Gt43⟩ := V
            have hin43 : ¬ ((0 : Int32) < 0 ∨ cl43.slots.size ≤ ((0 : Int32)).toNatClampNeg) := inb_of Sz43 ⟨by decide, by decide⟩
            have hat43 : cl43.slots[((0 : Int32)).toNatClampNeg]? = some (.int c0) := Hs43.at hin43 rfl
            have st43 := X42.caload hx (j := (0 : Int32)) (v := (.int c0)) (by rw [e42]; exact Ar43.1) (State.isArrayOf_alike hZ.alike Ar43.2.1) Ar43.2.2 hin43 hat43 (g := (mkF m 150 #[.val (.ref a), .val (.int p2)] [(.int (0 : Int32)), (.ref a), (.int (0 : Int32)), (.ref b42), (.ref b42), (.ref b41), (.ref b41)])) rfl rfl (hb hby d_method_3_150)
            have V43 : Arv Z h42 a kc .char (5 : Int32) [(.int c0), (.int c1), (.int c2), (.int c3), (.int c4)] (.int (0 : Int32)) := ⟨cl43, Ar43, q43, Sz43, Nn43, Hs43, Gt43⟩
            refine own_go (B := T42.setTop (mkF m 151 #[.val (.ref a), .val (.int p2)] [(.int c0), (.int (0 : Int32)), (.ref b42), (.ref b42), (.ref b41), (.ref b41)])) st43 ?_
            obtain ⟨cl44, Ar44, q44, Sz44, Nn44, Hs44, Gt44⟩ := V42
            have hin44 : ¬ ((0 : Int32) < 0 ∨ cl44.slots.size ≤ ((0 : Int32)).toNatClampNeg) := inb_of Sz44 ⟨by decide, by decide⟩
            obtain ⟨T44, h44, X44, e44, W44, st44⟩ := stC X42 hx hZ e42 Ar44 (j := (0 : Int32)) hin44 (g := (mkF m 151 #[.val (.ref a), .val (.int p2)] [(.int c0), (.int (0 : Int32)), (.ref b42), (.ref b42), (.ref b41), (.ref b41)])) rfl rfl (hb hby d_method_3_151)
            have V44 := Arv.set Ar44 q44 Sz44 Nn44 Hs44 Gt44 (fits_nar_char _) W44 0 rfl (Nat.le_of_ble_eq_true rfl)
            rw [cc0] at V44
            have V44 : Arv Z h44 b42 k42 .char (5 : Int32) [(.int c0), (.int (0 : Int32)), (.int (0 : Int32)), (.int (0 : Int32)), (.int (0 : Int32))] (.int (0 : Int32)) := V44
            replace A41 := A41.wr W44
            replace F41_value := F41_value.other W44 (Or.inl (Nat.ne_of_lt lt_b41_b42))
            replace F41_coder := F41_coder.other W44 (Or.inl (Nat.ne_of_lt lt_b41_b42))
            replace G42 := G42.wr W44
            replace V43 := V43.other W44 (Nat.ne_of_lt lt_a_b42)
            replace O := O.wr W44 g_b42
            replace hk := Nat.le_trans hk (Keep.of_wr W44).1
            replace KM := KM.wr W44 (Or.inr m_b42_42)
            replace K := K.wr W44 (Or.inr s_b42)
            replace N := Fr.snoc X44 N g_b42
            refine own_go (B := T44.setTop (mkF m 152 #[.val (.ref a), .val (.int p2)] [(.ref b42), (.ref b41), (.ref b41)])) st44 ?_
            refine own_go (B := T44.setTop (mkF m 156 #[.val (.ref a), .val (.int p2)] [(.int (1 : Int32)), (.ref a), (.int (1 : Int32)), (.ref b42), (.ref b42), (.ref b41), (.ref b41)])) (fun t k => ?_) ?_
            · show Steps p.tables e below (T44.setTop (mkF m 152 #[.val (.ref a), .val (.int p2)] [(.ref b42), (.ref b41), (.ref b41)])) _
              refine XS.dup X44.here hx rfl (hb hby d_method_3_152) rfl rfl ?_
              show Steps p.tables e below (T44.setTop (mkF m 153 #[.val (.ref a), .val (.int p2)] [(.ref b42), (.ref b42), (.ref b41), (.ref b41)])) _
              refine XS.iconst X44.here hx rfl (hb hby d_method_3_153) ?_
              show Steps p.tables e below (T44.setTop (mkF m 154 #[.val (.ref a), .val (.int p2)] [(.int (1 : Int32)), (.ref b42), (.ref b42), (.ref b41), (.ref b41)])) _
              refine XS.aloadN X44.here hx rfl (hb hby d_method_3_154) rfl rfl ?_
              show Steps p.tables e below (T44.setTop (mkF m 155 #[.val (.ref a), .val (.int p2)] [(.ref a), (.int (1 : Int32)), (.ref b42), (.ref b42), (.ref b41), (.ref b41)])) _
              refine XS.iconst X44.here hx rfl (hb hby d_method_3_155) ?_
              show Steps p.tables e below (T44.setTop (mkF m 156 #[.val (.ref a), .val (.int p2)] [(.int (1 : Int32)), (.ref a), (.int (1 : Int32)), (.ref b42), (.ref b42), (.ref b41), (.ref b41)])) _
              exact k
            obtain ⟨cl45, Ar45, q45, Sz45, Nn45, Hs45, Gt45⟩ := V43
            have hin45 : ¬ ((1 : Int32) < 0 ∨ cl45.slots.size ≤ ((1 : Int32)).toNatClampNeg) := inb_of Sz45 ⟨by decide, by decide⟩
            have hat45 : cl45.slots[((1 : Int32)).toNatClampNeg]? = some (.int c1) := Hs45.at hin45 rfl
            have st45 := X44.caload hx (j := (1 : Int32)) (v := (.int c1)) (by rw [e44]; exact Ar45.1) (State.isArrayOf_alike hZ.alike Ar45.2.1) Ar45.2.2 hin45 hat45 (g := (mkF m 156 #[.val (.ref a), .val (.int p2)] [(.int (1 : Int32)), (.ref a), (.int (1 : Int32)), (.ref b42), (.ref b42), (.ref b41), (.ref b41)])) rfl rfl (hb hby d_method_3_156)
            have V45 : Arv Z h44 a kc .char (5 : Int32) [(.int c0), (.int c1), (.int c2), (.int c3), (.int c4)] (.int (0 : Int32)) := ⟨cl45, Ar45, q45, Sz45, Nn45, Hs45, Gt45⟩
            refine own_go (B := T44.setTop (mkF m 157 #[.val (.ref a), .val (.int p2)] [(.int c1), (.int (1 : Int32)), (.ref b42), (.ref b42), (.ref b41), (.ref b41)])) st45 ?_
            obtain ⟨cl46, Ar46, q46, Sz46, Nn46, Hs46, Gt46⟩ := V44
            have hin46 : ¬ ((1 : Int32) < 0 ∨ cl46.slots.size ≤ ((1 : Int32)).toNatClampNeg) := inb_of Sz46 ⟨by decide, by decide⟩
            obtain ⟨T46, h46, X46, e46, W46, st46⟩ := stC X44 hx hZ e44 Ar46 (j := (1 : Int32)) hin46 (g := (mkF m 157 #[.val (.ref a), .val (.int p2)] [(.int c1), (.int (1 : Int32)), (.ref b42), (.ref b42), (.ref b41), (.ref b41)])) rfl rfl (hb hby d_method_3_157)
            have V46 := Arv.set Ar46 q46 Sz46 Nn46 Hs46 Gt46 (fits_nar_char _) W46 1 rfl (Nat.le_of_ble_eq_true rfl)
            rw [cc1] at V46
            have V46 : Arv Z h46 b42 k42 .char (5 : Int32) [(.int c0), (.int c1), (.int (0 : Int32)), (.int (0 : Int32)), (.int (0 : Int32))] (.int (0 : Int32)) := V46
            replace A41 := A41.wr W46
            replace F41_value := F41_value.other W46 (Or.inl (Nat.ne_of_lt lt_b41_b42))
            replace F41_coder := F41_coder.other W46 (Or.inl (Nat.ne_of_lt lt_b41_b42))
            replace G42 := G42.wr W46
            replace V45 := V45.other W46 (Nat.ne_of_lt lt_a_b42)
            replace O := O.wr W46 g_b42
            replace hk := Nat.le_trans hk (Keep.of_wr W46).1
            replace KM := KM.wr W46 (Or.inr m_b42_42)
            replace K := K.wr W46 (Or.inr s_b42)
            replace N := Fr.snoc X46 N g_b42
            refine own_go (B := T46.setTop (mkF m 158 #[.val (.ref a), .val (.int p2)] [(.ref b42), (.ref b41), (.ref b41)])) st46 ?_
            refine own_go (B := T46.setTop (mkF m 162 #[.val (.ref a), .val (.int p2)] [(.int (2 : Int32)), (.ref a), (.int (2 : Int32)), (.ref b42), (.ref b42), (.ref b41), (.ref b41)])) (fun t k => ?_) ?_
            · show Steps p.tables e below (T46.setTop (mkF m 158 #[.val (.ref a), .val (.int p2)] [(.ref b42), (.ref b41), (.ref b41)])) _
              refine XS.dup X46.here hx rfl (hb hby d_method_3_158) rfl rfl ?_
              show Steps p.tables e below (T46.setTop (mkF m 159 #[.val (.ref a), .val (.int p2)] [(.ref b42), (.ref b42), (.ref b41), (.ref b41)])) _
              refine XS.iconst X46.here hx rfl (hb hby d_method_3_159) ?_
              show Steps p.tables e below (T46.setTop (mkF m 160 #[.val (.ref a), .val (.int p2)] [(.int (2 : Int32)), (.ref b42), (.ref b42), (.ref b41), (.ref b41)])) _
              refine XS.aloadN X46.here hx rfl (hb hby d_method_3_160) rfl rfl ?_
              show Steps p.tables e below (T46.setTop (mkF m 161 #[.val (.ref a), .val (.int p2)] [(.ref a), (.int (2 : Int32)), (.ref b42), (.ref b42), (.ref b41), (.ref b41)])) _
              refine XS.iconst X46.here hx rfl (hb hby d_method_3_161) ?_
              show Steps p.tables e below (T46.setTop (mkF m 162 #[.val (.ref a), .val (.int p2)] [(.int (2 : Int32)), (.ref a), (.int (2 : Int32)), (.ref b42), (.ref b42), (.ref b41), (.ref b41)])) _
              exact k
            obtain ⟨cl47, Ar47, q47, Sz47, Nn47, Hs47, Gt47⟩ := V45
            have hin47 : ¬ ((2 : Int32) < 0 ∨ cl47.slots.size ≤ ((2 : Int32)).toNatClampNeg) := inb_of Sz47 ⟨by decide, by decide⟩
            have hat47 : cl47.slots[((2 : Int32)).toNatClampNeg]? = some (.int c2) := Hs47.at hin47 rfl
            have st47 := X46.caload hx (j := (2 : Int32)) (v := (.int c2)) (by rw [e46]; exact Ar47.1) (State.isArrayOf_alike hZ.alike Ar47.2.1) Ar47.2.2 hin47 hat47 (g := (mkF m 162 #[.val (.ref a), .val (.int p2)] [(.int (2 : Int32)), (.ref a), (.int (2 : Int32)), (.ref b42), (.ref b42), (.ref b41), (.ref b41)])) rfl rfl (hb hby d_method_3_162)
            have V47 : Arv Z h46 a kc .char (5 : Int32) [(.int c0), (.int c1), (.int c2), (.int c3), (.int c4)] (.int (0 : Int32)) := ⟨cl47, Ar47, q47, Sz47, Nn47, Hs47, Gt47⟩
            refine own_go (B := T46.setTop (mkF m 163 #[.val (.ref a), .val (.int p2)] [(.int c2), (.int (2 : Int32)), (.ref b42), (.ref b42), (.ref b41), (.ref b41)])) st47 ?_
            obtain ⟨cl48, Ar48, q48, Sz48, Nn48, Hs48, Gt48⟩ := V46
            have hin48 : ¬ ((2 : Int32) < 0 ∨ cl48.slots.size ≤ ((2 : Int32)).toNatClampNeg) := inb_of Sz48 ⟨by decide, by decide⟩
            obtain ⟨T48, h48, X48, e48, W48, st48⟩ := stC X46 hx hZ e46 Ar48 (j := (2 : Int32)) hin48 (g := (mkF m 163 #[.val (.ref a), .val (.int p2)] [(.int c2), (.int (2 : Int32)), (.ref b42), (.ref b42), (.ref b41), (.ref b41)])) rfl rfl (hb hby d_method_3_163)
            have V48 := Arv.set Ar48 q48 Sz48 Nn48 Hs48 Gt48 (fits_nar_char _) W48 2 rfl (Nat.le_of_ble_eq_true rfl)
            rw [cc2] at V48
            have V48 : Arv Z h48 b42 k42 .char (5 : Int32) [(.int c0), (.int c1), (.int c2), (.int (0 : Int32)), (.int (0 : Int32))] (.int (0 : Int32)) := V48
            replace A41 := A41.wr W48
            replace F41_value := F41_value.other W48 (Or.inl (Nat.ne_of_lt lt_b41_b42))
            replace F41_coder := F41_coder.other W48 (Or.inl (Nat.ne_of_lt lt_b41_b42))
            replace G42 := G42.wr W48
            replace V47 := V47.other W48 (Nat.ne_of_lt lt_a_b42)
            replace O := O.wr W48 g_b42
            replace hk := Nat.le_trans hk (Keep.of_wr W48).1
            replace KM := KM.wr W48 (Or.inr m_b42_42)
            replace K := K.wr W48 (Or.inr s_b42)
            replace N := Fr.snoc X48 N g_b42
            refine own_go (B := T48.setTop (mkF m 164 #[.val (.ref a), .val (.int p2)] [(.ref b42), (.ref b41), (.ref b41)])) st48 ?_
            refine own_go (B := T48.setTop (mkF m 168 #[.val (.ref a), .val (.int p2)] [(.int (3 : Int32)), (.ref a), (.int (3 : Int32)), (.ref b42), (.ref b42), (.ref b41), (.ref b41)])) (fun t k => ?_) ?_
            · show Steps p.tables e below (T48.setTop (mkF m 164 #[.val (.ref a), .val (.int p2)] [(.ref b42), (.ref b41), (.ref b41)])) _
              refine XS.dup X48.here hx rfl (hb hby d_method_3_164) rfl rfl ?_
              show Steps p.tables e below (T48.setTop (mkF m 165 #[.val (.ref a), .val (.int p2)] [(.ref b42), (.ref b42), (.ref b41), (.ref b41)])) _
              refine XS.iconst X48.here hx rfl (hb hby d_method_3_165) ?_
              show Steps p.tables e below (T48.setTop (mkF m 166 #[.val (.ref a), .val (.int p2)] [(.int (3 : Int32)), (.ref b42), (.ref b42), (.ref b41), (.ref b41)])) _
              refine XS.aloadN X48.here hx rfl (hb hby d_method_3_166) rfl rfl ?_
              show Steps p.tables e below (T48.setTop (mkF m 167 #[.val (.ref a), .val (.int p2)] [(.ref a), (.int (3 : Int32)), (.ref b42), (.ref b42), (.ref b41), (.ref b41)])) _
              refine XS.iconst X48.here hx rfl (hb hby d_method_3_167) ?_
              show Steps p.tables e below (T48.setTop (mkF m 168 #[.val (.ref a), .val (.int p2)] [(.int (3 : Int32)), (.ref a), (.int (3 : Int32)), (.ref b42), (.ref b42), (.ref b41), (.ref b41)])) _
              exact k
            obtain ⟨cl49, Ar49, q49, Sz49, Nn49, Hs49, Gt49⟩ := V47
            have hin49 : ¬ ((3 : Int32) < 0 ∨ cl49.slots.size ≤ ((3 : Int32)).toNatClampNeg) := inb_of Sz49 ⟨by decide, by decide⟩
            have hat49 : cl49.slots[((3 : Int32)).toNatClampNeg]? = some (.int c3) := Hs49.at hin49 rfl
            have st49 := X48.caload hx (j := (3 : Int32)) (v := (.int c3)) (by rw [e48]; exact Ar49.1) (State.isArrayOf_alike hZ.alike Ar49.2.1) Ar49.2.2 hin49 hat49 (g := (mkF m 168 #[.val (.ref a), .val (.int p2)] [(.int (3 : Int32)), (.ref a), (.int (3 : Int32)), (.ref b42), (.ref b42), (.ref b41), (.ref b41)])) rfl rfl (hb hby d_method_3_168)
            have V49 : Arv Z h48 a kc .char (5 : Int32) [(.int c0), (.int c1), (.int c2), (.int c3), (.int c4)] (.int (0 : Int32)) := ⟨cl49, Ar49, q49, Sz49, Nn49, Hs49, Gt49⟩
            refine own_go (B := T48.setTop (mkF m 169 #[.val (.ref a), .val (.int p2)] [(.int c3), (.int (3 : Int32)), (.ref b42), (.ref b42), (.ref b41), (.ref b41)])) st49 ?_
            obtain ⟨cl50, Ar50, q50, Sz50, Nn50, Hs50, Gt50⟩ := V48
            have hin50 : ¬ ((3 : Int32) < 0 ∨ cl50.slots.size ≤ ((3 : Int32)).toNatClampNeg) := inb_of Sz50 ⟨by decide, by decide⟩
            obtain ⟨T50, h50, X50, e50, W50, st50⟩ := stC X48 hx hZ e48 Ar50 (j := (3 : Int32)) hin50 (g := (mkF m 169 #[.val (.ref a), .val (.int p2)] [(.int c3), (.int (3 : Int32)), (.ref b42), (.ref b42), (.ref b41), (.ref b41)])) rfl rfl (hb hby d_method_3_169)
            have V50 := Arv.set Ar50 q50 Sz50 Nn50 Hs50 Gt50 (fits_nar_char _) W50 3 rfl (Nat.le_of_ble_eq_true rfl)
            rw [cc3] at V50
            have V50 : Arv Z h50 b42 k42 .char (5 : Int32) [(.int c0), (.int c1), (.int c2), (.int c3), (.int (0 : Int32))] (.int (0 : Int32)) := V50
            replace A41 := A41.wr W50
            replace F41_value := F41_value.other W50 (Or.inl (Nat.ne_of_lt lt_b41_b42))
            replace F41_coder := F41_coder.other W50 (Or.inl (Nat.ne_of_lt lt_b41_b42))
            replace G42 := G42.wr W50
            replace V49 := V49.other W50 (Nat.ne_of_lt lt_a_b42)
            replace O := O.wr W50 g_b42
            replace hk := Nat.le_trans hk (Keep.of_wr W50).1
            replace KM := KM.wr W50 (Or.inr m_b42_42)
            replace K := K.wr W50 (Or.inr s_b42)
            replace N := Fr.snoc X50 N g_b42
            refine own_go (B := T50.setTop (mkF m 170 #[.val (.ref a), .val (.int p2)] [(.ref b42), (.ref b41), (.ref b41)])) st50 ?_
            refine own_go (B := T50.setTop (mkF m 174 #[.val (.ref a), .val (.int p2)] [(.int (4 : Int32)), (.ref a), (.int (4 : Int32)), (.ref b42), (.ref b42), (.ref b41), (.ref b41)])) (fun t k => ?_) ?_
            · show Steps p.tables e below (T50.setTop (mkF m 170 #[.val (.ref a), .val (.int p2)] [(.ref b42), (.ref b41), (.ref b41)])) _
              refine XS.dup X50.here hx rfl (hb hby d_method_3_170) rfl rfl ?_
              show Steps p.tables e below (T50.setTop (mkF m 171 #[.val (.ref a), .val (.int p2)] [(.ref b42), (.ref b42), (.ref b41), (.ref b41)])) _
              refine XS.iconst X50.here hx rfl (hb hby d_method_3_171) ?_
              show Steps p.tables e below (T50.setTop (mkF m 172 #[.val (.ref a), .val (.int p2)] [(.int (4 : Int32)), (.ref b42), (.ref b42), (.ref b41), (.ref b41)])) _
              refine XS.aloadN X50.here hx rfl (hb hby d_method_3_172) rfl rfl ?_
              show Steps p.tables e below (T50.setTop (mkF m 173 #[.val (.ref a), .val (.int p2)] [(.ref a), (.int (4 : Int32)), (.ref b42), (.ref b42), (.ref b41), (.ref b41)])) _
              refine XS.iconst X50.here hx rfl (hb hby d_method_3_173) ?_
              show Steps p.tables e below (T50.setTop (mkF m 174 #[.val (.ref a), .val (.int p2)] [(.int (4 : Int32)), (.ref a), (.int (4 : Int32)), (.ref b42), (.ref b42), (.ref b41), (.ref b41)])) _
              exact k
            obtain ⟨cl51, Ar51, q51, Sz51, Nn51, Hs51, Gt51⟩ := V49
            have hin51 : ¬ ((4 : Int32) < 0 ∨ cl51.slots.size ≤ ((4 : Int32)).toNatClampNeg) := inb_of Sz51 ⟨by decide, by decide⟩
            have hat51 : cl51.slots[((4 : Int32)).toNatClampNeg]? = some (.int c4) := Hs51.at hin51 rfl
            have st51 := X50.caload hx (j := (4 : Int32)) (v := (.int c4)) (by rw [e50]; exact Ar51.1) (State.isArrayOf_alike hZ.alike Ar51.2.1) Ar51.2.2 hin51 hat51 (g := (mkF m 174 #[.val (.ref a), .val (.int p2)] [(.int (4 : Int32)), (.ref a), (.int (4 : Int32)), (.ref b42), (.ref b42), (.ref b41), (.ref b41)])) rfl rfl (hb hby d_method_3_174)
            have V51 : Arv Z h50 a kc .char (5 : Int32) [(.int c0), (.int c1), (.int c2), (.int c3), (.int c4)] (.int (0 : Int32)) := ⟨cl51, Ar51, q51, Sz51, Nn51, Hs51, Gt51⟩
            refine own_go (B := T50.setTop (mkF m 175 #[.val (.ref a), .val (.int p2)] [(.int c4), (.int (4 : Int32)), (.ref b42), (.ref b42), (.ref b41), (.ref b41)])) st51 ?_
            obtain ⟨cl52, Ar52, q52, Sz52, Nn52, Hs52, Gt52⟩ := V50
            have hin52 : ¬ ((4 : Int32) < 0 ∨ cl52.slots.size ≤ ((4 : Int32)).toNatClampNeg) := inb_of Sz52 ⟨by decide, by decide⟩
            obtain ⟨T52, h52, X52, e52, W52, st52⟩ := stC X50 hx hZ e50 Ar52 (j := (4 : Int32)) hin52 (g := (mkF m 175 #[.val (.ref a), .val (.int p2)] [(.int c4), (.int (4 : Int32)), (.ref b42), (.ref b42), (.ref b41), (.ref b41)])) rfl rfl (hb hby d_method_3_175)
            have V52 := Arv.set Ar52 q52 Sz52 Nn52 Hs52 Gt52 (fits_nar_char _) W52 4 rfl (Nat.le_of_ble_eq_true rfl)
            rw [cc4] at V52
            have V52 : Arv Z h52 b42 k42 .char (5 : Int32) [(.int c0), (.int c1), (.int c2), (.int c3), (.int c4)] (.int (0 : Int32)) := V52
            replace A41 := A41.wr W52
            replace F41_value := F41_value.other W52 (Or.inl (Nat.ne_of_lt lt_b41_b42))
            replace F41_coder := F41_coder.other W52 (Or.inl (Nat.ne_of_lt lt_b41_b42))
            replace G42 := G42.wr W52
            replace V51 := V51.other W52 (Nat.ne_of_lt lt_a_b42)
            replace O := O.wr W52 g_b42
            replace hk := Nat.le_trans hk (Keep.of_wr W52).1
            replace KM := KM.wr W52 (Or.inr m_b42_42)
            replace K := K.wr W52 (Or.inr s_b42)
            replace N := Fr.snoc X52 N g_b42
            refine own_go (B := T52.setTop (mkF m 176 #[.val (.ref a), .val (.int p2)] [(.ref b42), (.ref b41), (.ref b41)])) st52 ?_
            have := hc0
            have := hc1
            have := hc2
            have := hc3
            have := hc4
            have hws : ∀ d ∈ StrChars.Road.words, d.before a0 Z = true := fun d hd => hw d ((by decide +kernel : ∀ d ∈ StrChars.Road.words, d ∈ tables_1) d hd)
            -- pc 176: java/lang/String.<init>
            obtain ⟨_, _, ⟨T53, L53, k53, n53⟩, -, X53, ⟨Lc53, hQ53, l53, y53, z53⟩, st53⟩ := X52.specialBack hx (y := (⟨"java/lang/String", "<init>", "([C)V"⟩ : MethodName)) rfl hown (mvT hZ (hw _ (List.mem_of_getElem? (i := 9) rfl))) (mvT hZ (hw _ (List.mem_of_getElem? (i := 10) rfl))) (mvT hZ (hw _ (List.mem_of_getElem? (i := 11) rfl))) (by decide) (StrChars.Road.backV (W := 1) hZ hws (kI := 4) (hw _ (List.mem_of_getElem? (i := 7) rfl)) (cs := ([c0, c1, c2, c3, c4] : List Int32)) (bs := ([c0, c1, c2, c3, c4] : List Int32).map (fun c => c.toInt8.toInt32)) (n := 5) g_b41 (own_oldsz O) A41 F41_value F41_coder V52 (S_C.ext O.2) hcs rfl rfl (by decide) (by decide) (by intro c hc; simp only [List.mem_cons, List.not_mem_nil, or_false] at hc; rcases hc with rfl | rfl | rfl | rfl | rfl <;> assumption) rfl (by decide) (by decide)) (g := (mkF m 176 #[.val (.ref a), .val (.int p2)] [(.ref b42), (.ref b41), (.ref b41)])) rfl (by rw [hml]; rfl) (Steps.refl _) (a := b41) (argsL := [(.ref b42)]) (rest := [(.ref b41)]) (lenOf pd_2 rfl) rfl (by show 2 * 0 + _ ≤ _; exact Nat.le_of_eq rfl) (hb hby d_method_3_176) (fun _ hWm => ⟨rfl, e52, (by decide : 2 + 1 ≤ _), (by decide : 9 + 5 ≤ _)⟩)
            dsimp only [Pt.U, Pt.locs, Pt.cells, Pt.slots] at X53 l53 y53 z53 st53 hQ53
            subst l53 y53 z53
            obtain ⟨rfl, Nq53, Kq53, Gq53_0, Gq53_1, t53, kb53, u53, fq53, nq53, Gq53_2, Gq53_3⟩ := hQ53
            replace N := Fr.app N Nq53
            have lt_b41_t53 : b41 < t53 := Nat.lt_of_lt_of_le A41.lt fq53
            have lt_b42_t53 : b42 < t53 := Nat.lt_of_lt_of_le G42.lt fq53
            have lt_a_t53 : a < t53 := Nat.lt_of_lt_of_le V51.lt fq53
            have g_t53 : n0 ≤ t53 := Nat.le_trans (own_oldsz O) fq53
            have m_t53_53 : h0.size ≤ t53 := Nat.le_trans KM.1 fq53
            have s_t53 : h0.size ≤ t53 := Nat.le_trans K.1 fq53
            replace A41 := A41.keep Kq53
            clear F41_value
            clear F41_coder
            replace G42 := G42.keep Kq53
            replace V51 := V51.keep Kq53 (ninS (Nat.ne_of_lt lt_a_b41) nin0)
            replace V52 := V52.keep Kq53 (ninS (Nat.ne_of_gt lt_b41_b42) nin0)
            replace O := O.keep Kq53 (allS g_b41 all0)
            replace hk := Nat.le_trans hk Kq53.1
            replace KM := KM.trans Kq53 (allS (Or.inr m_b41_41) all0)
            replace K := K.trans Kq53 (allS (Or.inr s_b41) all0)
            refine own_go (B := T53.setTop (mkF m 179 #[.val (.ref a), .val (.int p2)] [(.ref b41)])) (fun t k => st53.trans k) ?_
            obtain ⟨fs, hr, hrun, hended, hEnd⟩ := X53.leaveW hS hk (v := some (.ref b41)) (fun h => by rw [Bd.returns] at h; cases h)
            refine ⟨_, _, own_retA X53 hx rfl Bd.returns rfl (hb hby d_method_3_179) hr, hfin _ _ ⟨hrun, hended, _, _, rfl, ?_, ⟨hEnd.1, hEnd.2.1, hEnd.2.2.1, hEnd.2.2.2.mono (by decide) (by decide)⟩, own_emR rfl (Em.warm (M.keep KM) X53.warmed)⟩⟩
            show QTake Z a kc c0 c1 c2 c3 c4 p2 zc h0 n0 _ T53.heap _
            exact ⟨b41, t53, kb53, ([c0, c1, c2, c3, c4] : List Int32), rfl, N, K, s_b41, Gq53_0, Gq53_1, Gq53_2, Gq53_3, (Eq.symm ((if_neg t0).trans ((if_neg t1).trans ((if_neg t2).trans ((if_neg t3).trans (if_neg t4)))))), (by intro c hc; simp only [List.mem_cons, List.not_mem_nil, or_false] at hc; rcases hc with rfl | rfl | rfl | rfl | rfl <;> assumption), (Nat.le_of_ble_eq_true rfl)⟩
def QAbs (Z : State) (a : Addr) (tt : Addr) (kb : ClassId) (cs : List Int32) (zc : Int32) (fm : Value) (h0 : Heap) (n0 : Nat) (v : Option Value) (h : Heap) (L : List Loc) : Prop := ∃ b : Int32, v = some (.int b) ∧ Fr n0 L ∧ h = h0 ∧ (b = own_scan cs cs.length 0)
theorem ef_Abs (m : MethodId) (a : Addr) : entryFrame m #[(.ref a)] 2 = mkF m 0 #[.val (.ref a), .unset] [] := by first | (simp [entryFrame, mkF, argsToLocals, Value.category]; done) | rfl | (rfl)
set_option maxRecDepth 65536 in
set_option maxHeartbeats 40000000 in
theorem rmAbs (l : Launch) (Z : State) (a0 : Array Value) (hw : ∀ d ∈ tables_1, d.before a0 Z = true) (ws : List Jvm.Cond) (a : Addr) (tt : Addr) (kb : ClassId) (cs : List Int32) (zc : Int32) (fm : Value) (h0 : Heap) (n0 : Nat) (O : Old Z n0 h0) (f0 : Exa Z h0 a "java/lang/String") (f1 : Fld Z h0 a "java/lang/String" "coder" "B" (.int (0 : Int32))) (f2 : Fld Z h0 a "java/lang/String" "value" "[B" (.ref tt)) (f3 : Arv Z h0 tt kb .byte (Int32.ofNat cs.length) (own_bs cs) (.int (0 : Int32))) (S_C : Sta Z Z.heap "java/lang/String" "COMPACT_STRINGS" "Z" (.int zc)) (S_F : Sta Z Z.heap "jdk/internal/util/Preconditions" "SIOOBE_FORMATTER" "Ljava/util/function/BiFunction;" fm) (hcs : ¬ zc = (0 : Int32)) (rF : fm.isRef = true) (hbB : ∀ c ∈ cs, ¬ c < 0 ∧ ¬ (255 : Int32) < c) (hl : cs.length ≤ 4000) :
    MetFree l (⟨"org/bindery/Iri", "isAbsolute", "(Ljava/lang/String;)Z"⟩ : MethodName) (head1 (Jvm.Cond.code (⟨"org/bindery/Iri", "isAbsolute", "(Ljava/lang/String;)Z"⟩ : MethodName) prog_62_method_2_code 2 (some .boolean) :: ws) ({ frames := 4, cells := 0, slots := 0, locals := 53 } : Room)) (fun as_ U => as_ = #[(.ref a)] ∧ Z.Warmed39 U.vm ∧ U.heap = h0) (fun _ _ _ _ _ => True) (fun _ U oo_ U' => ∃ vv_ LL_, oo_ = .returned vv_ ∧ QAbs Z a tt kb cs zc fm h0 n0 vv_ U'.heap LL_ ∧ FrameEnd U oo_ U' LL_ ({ frames := 4, cells := 0, slots := 0, locals := 53 } : Room).cells ({ frames := 4, cells := 0, slots := 0, locals := 53 } : Room).slots) := by
  refine MetFree.of_bodySF (plainFor_of_name pn_2) hisR ?_
  intro p e s m args below meth c s₁ Bd hml0 hP hK
  obtain ⟨rfl, hZ, hh⟩ := hP
  have hx := Bd.exec
  have hby := Bd.bytes
  have hml : c.maxLocals = 2 := hml0
  have hown : s.vm.findClass "org/bindery/Iri" = some m.cls := findClass_of_methodNamed Bd.named
  have hnm := (name_of_methodNamed Bd.named Bd.method).1
  have X0 : Stand p l e ({ frames := 4, cells := 0, slots := 0, locals := 53 } : Room) s m #[(.ref a)] below meth c s₁ [] 0 0 := Stand.of_body Bd
  have e0 : s₁.heap = h0 := by rw [← hh, Bd.state]; rfl
  have N := Fr.nil n0
  have K : Keep h0 h0 [] := Keep.refl h0 _
  refine own_go (B := s₁.setTop (mkF m 0 #[.val (.ref a), .unset] [])) (fun t k => castTop (ef_Abs m a) k) ?_
  refine own_abs (fun P hfin => ?_)
  refine own_go (B := s₁.setTop (mkF m 2 #[.val (.ref a), .val (.int (0 : Int32))] [])) (fun t k => ?_) ?_
  · show Steps p.tables e below (s₁.setTop (mkF m 0 #[.val (.ref a), .unset] [])) _
    refine XS.iconst X0.here hx rfl (hb hby d_prog_62_method_2_0) ?_
    show Steps p.tables e below (s₁.setTop (mkF m 1 #[.val (.ref a), .unset] [(.int (0 : Int32))])) _
    refine XS.istoreN X0.here hx rfl (hb hby d_prog_62_method_2_1) rfl (l' := #[.val (.ref a), .val (.int (0 : Int32))]) rfl ?_
    show Steps p.tables e below (s₁.setTop (mkF m 2 #[.val (.ref a), .val (.int (0 : Int32))] [])) _
    exact k
  suffices hloop : ∀ (kk i : Nat) (T' : State) (L' : List Loc), i + kk = cs.length → own_scan cs kk i = own_scan cs cs.length 0 → Stand p l e ({ frames := 4, cells := 0, slots := 0, locals := 53 } : Room) s m #[(.ref a)] below meth c T' L' 0 0 → T'.heap = h0 → Fr n0 L' → ∃ s₂ o, Steps p.tables e below (T'.setTop (mkF m 2 #[.val (.ref a), .val (.int (Int32.ofNat i))] [])) s₂ ∧ P s₂ o from
    hloop cs.length 0 _ _ (Nat.zero_add _) rfl X0 e0 N
  clear N
  intro kk
  induction kk with
  | zero =>
    intro i T1 L1 hi hf X1 e1 N
    have hlt : ¬ i < cs.length := by omega
    refine own_go (B := T1.setTop (mkF m 4 #[.val (.ref a), .val (.int (Int32.ofNat i))] [(.ref a), (.int (Int32.ofNat i))])) (fun t k => ?_) ?_
    · show Steps p.tables e below (T1.setTop (mkF m 2 #[.val (.ref a), .val (.int (Int32.ofNat i))] [])) _
      refine XS.iloadN X1.here hx rfl (hb hby d_prog_62_method_2_2) rfl ?_
      show Steps p.tables e below (T1.setTop (mkF m 3 #[.val (.ref a), .val (.int (Int32.ofNat i))] [(.int (Int32.ofNat i))])) _
      refine XS.aloadN X1.here hx rfl (hb hby d_prog_62_method_2_3) rfl rfl ?_
      show Steps p.tables e below (T1.setTop (mkF m 4 #[.val (.ref a), .val (.int (Int32.ofNat i))] [(.ref a), (.int (Int32.ofNat i))])) _
      exact k
    have hln : ∀ d ∈ StrChars.Road.wordsLen, d.before a0 Z = true := fun d hd => hw d ((by decide +kernel : ∀ d ∈ StrChars.Road.wordsLen, d ∈ tables_1) d hd)
    -- pc 4: java/lang/String.length
    obtain ⟨cq2, kq2, q2a, q2b, q2c⟩ := isOf hZ e1 f0
    obtain ⟨_, _, ⟨T2, L2, k2, n2⟩, -, X2, ⟨Lc2, hQ2, l2, y2, z2⟩, st2⟩ := X1.virtualBack hx (y := (⟨"java/lang/String", "length", "()I"⟩ : MethodName)) (z := (⟨"java/lang/String", "length", "()I"⟩ : MethodName)) hown (mvT hZ (hw _ (List.mem_of_getElem? (i := 34) rfl))) (mvT hZ (hw _ (List.mem_of_getElem? (i := 35) rfl))) (notFace_of_selects (args := #[]) (mvT hZ (hw _ (List.mem_of_getElem? (i := 37) rfl)))) (mvT hZ (hw _ (List.mem_of_getElem? (i := 37) rfl))) (mvT hZ (hw _ (List.mem_of_getElem? (i := 36) rfl))) (by decide) (StrChars.Road.lenW (W := 1) hZ hln (kI := 4) (hw _ (List.mem_of_getElem? (i := 7) rfl)) f0 f2 f1 f3 (StrChars.Road.codOf (n := cs.length) rfl (fun c hc => (hbB c hc).2)) (own_up hbB) (S_C.ext O.2) hcs hl (by decide) (by decide)) q2a q2c (g := (mkF m 4 #[.val (.ref a), .val (.int (Int32.ofNat i))] [(.ref a), (.int (Int32.ofNat i))])) rfl (by rw [hml]; rfl) (Steps.refl _) (argsL := []) (rest := [(.int (Int32.ofNat i))]) (lenOf pd_3 rfl) rfl (by show 2 * 0 + _ ≤ _; exact Nat.le_of_eq rfl) (hb hby d_prog_62_method_2_4) (fun _ hWm => ⟨rfl, e1, (by decide : 0 + 0 ≤ _), (by decide : 0 + 0 ≤ _)⟩)
    dsimp only [Pt.U, Pt.locs, Pt.cells, Pt.slots] at X2 l2 y2 z2 st2 hQ2
    subst l2 y2 z2
    obtain ⟨rfl, rfl, e2⟩ := hQ2
    replace N := Fr.app N (Fr.nil n0)
    refine own_go (B := T2.setTop (mkF m 7 #[.val (.ref a), .val (.int (Int32.ofNat i))] [(.int (Int32.ofNat cs.length)), (.int (Int32.ofNat i))])) (fun t k => st2.trans k) ?_
    refine own_go (B := T2.setTop (mkF m 37 #[.val (.ref a), .val (.int (Int32.ofNat i))] [(.int (Int32.ofNat i))])) (fun t k => ?_) ?_
    · show Steps p.tables e below (T2.setTop (mkF m 7 #[.val (.ref a), .val (.int (Int32.ofNat i))] [(.int (Int32.ofNat cs.length)), (.int (Int32.ofNat i))])) _
      refine XS.icmpYes X2.here hx rfl (pc0 := 7) (pc' := 36) rfl (hb hby d_prog_62_method_2_7) rfl (flt (own_ofnlt hl hlt)).2.1 (by decide) (by decide) ?_
      show Steps p.tables e below (T2.setTop (mkF m 36 #[.val (.ref a), .val (.int (Int32.ofNat i))] [])) _
      refine XS.iloadN X2.here hx rfl (hb hby d_prog_62_method_2_36) rfl ?_
      show Steps p.tables e below (T2.setTop (mkF m 37 #[.val (.ref a), .val (.int (Int32.ofNat i))] [(.int (Int32.ofNat i))])) _
      exact k
    by_cases z0 : i = 0
    · refine own_go (B := T2.setTop (mkF m 63 #[.val (.ref a), .val (.int (Int32.ofNat i))] [(.int (0 : Int32))])) (fun t k => ?_) ?_
      · show Steps p.tables e below (T2.setTop (mkF m 37 #[.val (.ref a), .val (.int (Int32.ofNat i))] [(.int (Int32.ofNat i))])) _
        refine XS.ifYes X2.here hx rfl (pc0 := 37) (pc' := 62) rfl (hb hby d_prog_62_method_2_37) rfl ((if0 _ _).trans (flt (by rw [z0]; decide)).2.2.2) (by decide) (by decide) ?_
        show Steps p.tables e below (T2.setTop (mkF m 62 #[.val (.ref a), .val (.int (Int32.ofNat i))] [])) _
        refine XS.iconst X2.here hx rfl (hb hby d_prog_62_method_2_62) ?_
        show Steps p.tables e below (T2.setTop (mkF m 63 #[.val (.ref a), .val (.int (Int32.ofNat i))] [(.int (0 : Int32))])) _
        exact k
      obtain ⟨fs, hr, hrun, hended, hW, hsame⟩ := X2.leave (v := some (.int (0 : Int32))) (fun h => by rw [Bd.returns] at h; cases h)
      refine ⟨_, _, retN X2 hx (t := .boolean) Bd.returns (by simp) (hb hby d_prog_62_method_2_63) hr, hfin _ _ ⟨hrun, hended, _, _, rfl, ?_, ⟨_, rfl⟩, hW, hsame.mono (by decide) (by decide)⟩⟩
      show QAbs Z a tt kb cs zc fm h0 n0 _ T2.heap _
      exact ⟨(0 : Int32), rfl, N, e2, ((show own_scan cs 0 i = _ from (if_neg (fun q => absurd z0 (Nat.ne_of_gt q.1)))).symm.trans hf)⟩
    · refine own_go (B := T2.setTop (mkF m 42 #[.val (.ref a), .val (.int (Int32.ofNat i))] [(.ref a), (.int (Int32.ofNat i))])) (fun t k => ?_) ?_
      · show Steps p.tables e below (T2.setTop (mkF m 37 #[.val (.ref a), .val (.int (Int32.ofNat i))] [(.int (Int32.ofNat i))])) _
        refine XS.ifNo X2.here hx rfl (hb hby d_prog_62_method_2_37) rfl ((if0 _ _).trans (tlt (own_ofpos hl (by omega) z0)).2.2.2) ?_
        show Steps p.tables e below (T2.setTop (mkF m 40 #[.val (.ref a), .val (.int (Int32.ofNat i))] [])) _
        refine XS.iloadN X2.here hx rfl (hb hby d_prog_62_method_2_40) rfl ?_
        show Steps p.tables e below (T2.setTop (mkF m 41 #[.val (.ref a), .val (.int (Int32.ofNat i))] [(.int (Int32.ofNat i))])) _
        refine XS.aloadN X2.here hx rfl (hb hby d_prog_62_method_2_41) rfl rfl ?_
        show Steps p.tables e below (T2.setTop (mkF m 42 #[.val (.ref a), .val (.int (Int32.ofNat i))] [(.ref a), (.int (Int32.ofNat i))])) _
        exact k
      have hln : ∀ d ∈ StrChars.Road.wordsLen, d.before a0 Z = true := fun d hd => hw d ((by decide +kernel : ∀ d ∈ StrChars.Road.wordsLen, d ∈ tables_1) d hd)
      -- pc 42: java/lang/String.length
      obtain ⟨cq4, kq4, q4a, q4b, q4c⟩ := isOf hZ e2 f0
      obtain ⟨_, _, ⟨T4, L4, k4, n4⟩, -, X4, ⟨Lc4, hQ4, l4, y4, z4⟩, st4⟩ := X2.virtualBack hx (y := (⟨"java/lang/String", "length", "()I"⟩ : MethodName)) (z := (⟨"java/lang/String", "length", "()I"⟩ : MethodName)) hown (mvT hZ (hw _ (List.mem_of_getElem? (i := 34) rfl))) (mvT hZ (hw _ (List.mem_of_getElem? (i := 35) rfl))) (notFace_of_selects (args := #[]) (mvT hZ (hw _ (List.mem_of_getElem? (i := 37) rfl)))) (mvT hZ (hw _ (List.mem_of_getElem? (i := 37) rfl))) (mvT hZ (hw _ (List.mem_of_getElem? (i := 36) rfl))) (by decide) (StrChars.Road.lenW (W := 1) hZ hln (kI := 4) (hw _ (List.mem_of_getElem? (i := 7) rfl)) f0 f2 f1 f3 (StrChars.Road.codOf (n := cs.length) rfl (fun c hc => (hbB c hc).2)) (own_up hbB) (S_C.ext O.2) hcs hl (by decide) (by decide)) q4a q4c (g := (mkF m 42 #[.val (.ref a), .val (.int (Int32.ofNat i))] [(.ref a), (.int (Int32.ofNat i))])) rfl (by rw [hml]; rfl) (Steps.refl _) (argsL := []) (rest := [(.int (Int32.ofNat i))]) (lenOf pd_3 rfl) rfl (by show 2 * 0 + _ ≤ _; exact Nat.le_of_eq rfl) (hb hby d_prog_62_method_2_42) (fun _ hWm => ⟨rfl, e2, (by decide : 0 + 0 ≤ _), (by decide : 0 + 0 ≤ _)⟩)
      dsimp only [Pt.U, Pt.locs, Pt.cells, Pt.slots] at X4 l4 y4 z4 st4 hQ4
      subst l4 y4 z4
      obtain ⟨rfl, rfl, e4⟩ := hQ4
      replace N := Fr.app N (Fr.nil n0)
      refine own_go (B := T4.setTop (mkF m 45 #[.val (.ref a), .val (.int (Int32.ofNat i))] [(.int (Int32.ofNat cs.length)), (.int (Int32.ofNat i))])) (fun t k => st4.trans k) ?_
      refine own_go (B := T4.setTop (mkF m 63 #[.val (.ref a), .val (.int (Int32.ofNat i))] [(.int (0 : Int32))])) (fun t k => ?_) ?_
      · show Steps p.tables e below (T4.setTop (mkF m 45 #[.val (.ref a), .val (.int (Int32.ofNat i))] [(.int (Int32.ofNat cs.length)), (.int (Int32.ofNat i))])) _
        refine XS.icmpYes X4.here hx rfl (pc0 := 45) (pc' := 62) rfl (hb hby d_prog_62_method_2_45) rfl (flt (own_ofnlt hl hlt)).2.1 (by decide) (by decide) ?_
        show Steps p.tables e below (T4.setTop (mkF m 62 #[.val (.ref a), .val (.int (Int32.ofNat i))] [])) _
        refine XS.iconst X4.here hx rfl (hb hby d_prog_62_method_2_62) ?_
        show Steps p.tables e below (T4.setTop (mkF m 63 #[.val (.ref a), .val (.int (Int32.ofNat i))] [(.int (0 : Int32))])) _
        exact k
      obtain ⟨fs, hr, hrun, hended, hW, hsame⟩ := X4.leave (v := some (.int (0 : Int32))) (fun h => by rw [Bd.returns] at h; cases h)
      refine ⟨_, _, retN X4 hx (t := .boolean) Bd.returns (by simp) (hb hby d_prog_62_method_2_63) hr, hfin _ _ ⟨hrun, hended, _, _, rfl, ?_, ⟨_, rfl⟩, hW, hsame.mono (by decide) (by decide)⟩⟩
      show QAbs Z a tt kb cs zc fm h0 n0 _ T4.heap _
      exact ⟨(0 : Int32), rfl, N, e4, ((show own_scan cs 0 i = _ from (if_neg (fun q => hlt q.2.1))).symm.trans hf)⟩
  | succ kk ih =>
    intro i T6 L6 hi hf X6 e6 N
    have hlt : i < cs.length := by omega
    refine own_go (B := T6.setTop (mkF m 4 #[.val (.ref a), .val (.int (Int32.ofNat i))] [(.ref a), (.int (Int32.ofNat i))])) (fun t k => ?_) ?_
    · show Steps p.tables e below (T6.setTop (mkF m 2 #[.val (.ref a), .val (.int (Int32.ofNat i))] [])) _
      refine XS.iloadN X6.here hx rfl (hb hby d_prog_62_method_2_2) rfl ?_
      show Steps p.tables e below (T6.setTop (mkF m 3 #[.val (.ref a), .val (.int (Int32.ofNat i))] [(.int (Int32.ofNat i))])) _
      refine XS.aloadN X6.here hx rfl (hb hby d_prog_62_method_2_3) rfl rfl ?_
      show Steps p.tables e below (T6.setTop (mkF m 4 #[.val (.ref a), .val (.int (Int32.ofNat i))] [(.ref a), (.int (Int32.ofNat i))])) _
      exact k
    have hln : ∀ d ∈ StrChars.Road.wordsLen, d.before a0 Z = true := fun d hd => hw d ((by decide +kernel : ∀ d ∈ StrChars.Road.wordsLen, d ∈ tables_1) d hd)
    -- pc 4: java/lang/String.length
    obtain ⟨cq7, kq7, q7a, q7b, q7c⟩ := isOf hZ e6 f0
    obtain ⟨_, _, ⟨T7, L7, k7, n7⟩, -, X7, ⟨Lc7, hQ7, l7, y7, z7⟩, st7⟩ := X6.virtualBack hx (y := (⟨"java/lang/String", "length", "()I"⟩ : MethodName)) (z := (⟨"java/lang/String", "length", "()I"⟩ : MethodName)) hown (mvT hZ (hw _ (List.mem_of_getElem? (i := 34) rfl))) (mvT hZ (hw _ (List.mem_of_getElem? (i := 35) rfl))) (notFace_of_selects (args := #[]) (mvT hZ (hw _ (List.mem_of_getElem? (i := 37) rfl)))) (mvT hZ (hw _ (List.mem_of_getElem? (i := 37) rfl))) (mvT hZ (hw _ (List.mem_of_getElem? (i := 36) rfl))) (by decide) (StrChars.Road.lenW (W := 1) hZ hln (kI := 4) (hw _ (List.mem_of_getElem? (i := 7) rfl)) f0 f2 f1 f3 (StrChars.Road.codOf (n := cs.length) rfl (fun c hc => (hbB c hc).2)) (own_up hbB) (S_C.ext O.2) hcs hl (by decide) (by decide)) q7a q7c (g := (mkF m 4 #[.val (.ref a), .val (.int (Int32.ofNat i))] [(.ref a), (.int (Int32.ofNat i))])) rfl (by rw [hml]; rfl) (Steps.refl _) (argsL := []) (rest := [(.int (Int32.ofNat i))]) (lenOf pd_3 rfl) rfl (by show 2 * 0 + _ ≤ _; exact Nat.le_of_eq rfl) (hb hby d_prog_62_method_2_4) (fun _ hWm => ⟨rfl, e6, (by decide : 0 + 0 ≤ _), (by decide : 0 + 0 ≤ _)⟩)
    dsimp only [Pt.U, Pt.locs, Pt.cells, Pt.slots] at X7 l7 y7 z7 st7 hQ7
    subst l7 y7 z7
    obtain ⟨rfl, rfl, e7⟩ := hQ7
    replace N := Fr.app N (Fr.nil n0)
    refine own_go (B := T7.setTop (mkF m 7 #[.val (.ref a), .val (.int (Int32.ofNat i))] [(.int (Int32.ofNat cs.length)), (.int (Int32.ofNat i))])) (fun t k => st7.trans k) ?_
    refine own_go (B := T7.setTop (mkF m 12 #[.val (.ref a), .val (.int (Int32.ofNat i))] [(.int (Int32.ofNat i)), (.ref a)])) (fun t k => ?_) ?_
    · show Steps p.tables e below (T7.setTop (mkF m 7 #[.val (.ref a), .val (.int (Int32.ofNat i))] [(.int (Int32.ofNat cs.length)), (.int (Int32.ofNat i))])) _
      refine XS.icmpNo X7.here hx rfl (hb hby d_prog_62_method_2_7) rfl (tlt (own_oflt hl hlt)).2.1 ?_
      show Steps p.tables e below (T7.setTop (mkF m 10 #[.val (.ref a), .val (.int (Int32.ofNat i))] [])) _
      refine XS.aloadN X7.here hx rfl (hb hby d_prog_62_method_2_10) rfl rfl ?_
      show Steps p.tables e below (T7.setTop (mkF m 11 #[.val (.ref a), .val (.int (Int32.ofNat i))] [(.ref a)])) _
      refine XS.iloadN X7.here hx rfl (hb hby d_prog_62_method_2_11) rfl ?_
      show Steps p.tables e below (T7.setTop (mkF m 12 #[.val (.ref a), .val (.int (Int32.ofNat i))] [(.int (Int32.ofNat i)), (.ref a)])) _
      exact k
    have hch : ∀ d ∈ StrChars.Road.wordsChN, d.before a0 Z = true := fun d hd => hw d ((by decide +kernel : ∀ d ∈ StrChars.Road.wordsChN, d ∈ tables_1) d hd)
    -- pc 12: java/lang/String.charAt
    obtain ⟨cq8, kq8, q8a, q8b, q8c⟩ := isOf hZ e7 f0
    obtain ⟨_, _, ⟨T8, L8, k8, n8⟩, -, X8, ⟨Lc8, hQ8, l8, y8, z8⟩, st8⟩ := X7.virtualBack hx (y := (⟨"java/lang/String", "charAt", "(I)C"⟩ : MethodName)) (z := (⟨"java/lang/String", "charAt", "(I)C"⟩ : MethodName)) hown (mvT hZ (hw _ (List.mem_of_getElem? (i := 58) rfl))) (mvT hZ (hw _ (List.mem_of_getElem? (i := 59) rfl))) (notFace_of_selects (args := #[]) (mvT hZ (hw _ (List.mem_of_getElem? (i := 61) rfl)))) (mvT hZ (hw _ (List.mem_of_getElem? (i := 61) rfl))) (mvT hZ (hw _ (List.mem_of_getElem? (i := 60) rfl))) (by decide) (StrChars.Road.chN (W := 0) hZ hch (kI := 4) (hw _ (List.mem_of_getElem? (i := 7) rfl)) f0 f2 f1 f3 (StrChars.Road.codOf (n := cs.length) rfl (fun c hc => (hbB c hc).2)) (own_up hbB) (S_C.ext O.2) hcs (S_F.ext O.2) rF hl (i := i) hlt (j := (Int32.ofNat i)) rfl (by decide) (by decide)) q8a q8c (g := (mkF m 12 #[.val (.ref a), .val (.int (Int32.ofNat i))] [(.int (Int32.ofNat i)), (.ref a)])) rfl (by rw [hml]; rfl) (Steps.refl _) (argsL := [(.int (Int32.ofNat i))]) (rest := []) (lenOf pd_4 rfl) rfl (by show 2 * 0 + _ ≤ _; exact Nat.le_of_eq rfl) (hb hby d_prog_62_method_2_12) (fun _ hWm => ⟨rfl, e7, (by decide : 0 + 0 ≤ _), (by decide : 0 + 0 ≤ _)⟩)
    dsimp only [Pt.U, Pt.locs, Pt.cells, Pt.slots] at X8 l8 y8 z8 st8 hQ8
    subst l8 y8 z8
    obtain ⟨rfl, rfl, e8⟩ := hQ8
    replace N := Fr.app N (Fr.nil n0)
    refine own_go (B := T8.setTop (mkF m 15 #[.val (.ref a), .val (.int (Int32.ofNat i))] [(.int (cs.getD i 0))])) (fun t k => st8.trans k) ?_
    refine own_go (B := T8.setTop (mkF m 16 #[.val (.ref a), .val (.int (Int32.ofNat i))] [(.int (Int32.ofNat i)), (.int (cs.getD i 0))])) (fun t k => ?_) ?_
    · show Steps p.tables e below (T8.setTop (mkF m 15 #[.val (.ref a), .val (.int (Int32.ofNat i))] [(.int (cs.getD i 0))])) _
      refine XS.iloadN X8.here hx rfl (hb hby d_prog_62_method_2_15) rfl ?_
      show Steps p.tables e below (T8.setTop (mkF m 16 #[.val (.ref a), .val (.int (Int32.ofNat i))] [(.int (Int32.ofNat i)), (.int (cs.getD i 0))])) _
      exact k
    by_cases z0 : i = 0
    · refine own_go (B := T8.setTop (mkF m 24 #[.val (.ref a), .val (.int (Int32.ofNat i))] [(.int (1 : Int32)), (.int (cs.getD i 0))])) (fun t k => ?_) ?_
      · show Steps p.tables e below (T8.setTop (mkF m 16 #[.val (.ref a), .val (.int (Int32.ofNat i))] [(.int (Int32.ofNat i)), (.int (cs.getD i 0))])) _
        refine XS.ifNo X8.here hx rfl (hb hby d_prog_62_method_2_16) rfl ((if0 _ _).trans (teq (by rw [z0]; rfl)).2) ?_
        show Steps p.tables e below (T8.setTop (mkF m 19 #[.val (.ref a), .val (.int (Int32.ofNat i))] [(.int (cs.getD i 0))])) _
        refine XS.iconst X8.here hx rfl (hb hby d_prog_62_method_2_19) ?_
        show Steps p.tables e below (T8.setTop (mkF m 20 #[.val (.ref a), .val (.int (Int32.ofNat i))] [(.int (1 : Int32)), (.int (cs.getD i 0))])) _
        refine XS.goto X8.here hx rfl (pc0 := 20) (pc' := 24) rfl (hb hby d_prog_62_method_2_20) (by decide) (by decide) ?_
        show Steps p.tables e below (T8.setTop (mkF m 24 #[.val (.ref a), .val (.int (Int32.ofNat i))] [(.int (1 : Int32)), (.int (cs.getD i 0))])) _
        exact k
      -- pc 24: org/bindery/Iri.isSchemeCharacter
      obtain ⟨_, _, ⟨T9, L9, k9, n9⟩, -, X9, ⟨Lc9, hQ9, l9, y9, z9⟩, st9⟩ := Jvm.LawKit.callS X8 hx (y := (⟨"org/bindery/Iri", "isSchemeCharacter", "(CZ)Z"⟩ : MethodName)) hown (mvT hZ (hw _ (List.mem_of_getElem? (i := 80) rfl))) (mvT hZ (hw _ (List.mem_of_getElem? (i := 81) rfl))) (mvT hZ (hw _ (List.mem_of_getElem? (i := 32) rfl))) (mvT hZ (hw _ (List.mem_of_getElem? (i := 82) rfl))) (by decide) (backOf (W := 0) (rmSc1 l Z a0 hw [] (cs.getD i 0) h0 n0 O ) hZ (hw _ (List.mem_of_getElem? (i := 82) rfl)) (hw _ (List.mem_of_getElem? (i := 32) rfl)) (by decide) (by decide)) (g := (mkF m 24 #[.val (.ref a), .val (.int (Int32.ofNat i))] [(.int (1 : Int32)), (.int (cs.getD i 0))])) rfl (by rw [hml]; rfl) (argsL := [(.int (cs.getD i 0)), (.int (1 : Int32))]) (rest := []) (lenOf pd_5 rfl) rfl (by show 2 * 0 + _ ≤ _; exact Nat.le_of_eq rfl) (hb hby d_prog_62_method_2_24) (fun _ hWm => ⟨rfl, e8, (by decide : 0 + 0 ≤ _), (by decide : 0 + 0 ≤ _)⟩)
      dsimp only [Pt.U, Pt.locs, Pt.cells, Pt.slots] at X9 l9 y9 z9 st9 hQ9
      subst l9 y9 z9
      obtain ⟨b9, rfl, Nq9, Kq9, cq9_0, cq9_1⟩ := hQ9
      replace N := Fr.app N Nq9
      refine own_go (B := T9.setTop (mkF m 27 #[.val (.ref a), .val (.int (Int32.ofNat i))] [(.int b9)])) st9 ?_
      by_cases ps : own_let (cs.getD i 0)
      · refine own_go (B := T9.setTop (mkF m 2 #[.val (.ref a), .val (.int ((Int32.ofNat i) + (1 : Int32)))] [])) (fun t k => ?_) ?_
        · show Steps p.tables e below (T9.setTop (mkF m 27 #[.val (.ref a), .val (.int (Int32.ofNat i))] [(.int b9)])) _
          refine XS.ifNo X9.here hx rfl (hb hby d_prog_62_method_2_27) rfl ((if0 _ _).trans (feq (by rw [cq9_0 ps]; decide)).1) ?_
          show Steps p.tables e below (T9.setTop (mkF m 30 #[.val (.ref a), .val (.int (Int32.ofNat i))] [])) _
          refine XS.iinc X9.here hx rfl (hb hby d_prog_62_method_2_30) rfl (l' := #[.val (.ref a), .val (.int ((Int32.ofNat i) + (1 : Int32)))]) rfl ?_
          show Steps p.tables e below (T9.setTop (mkF m 33 #[.val (.ref a), .val (.int ((Int32.ofNat i) + (1 : Int32)))] [])) _
          refine XS.goto X9.here hx rfl (pc0 := 33) (pc' := 2) rfl (hb hby d_prog_62_method_2_33) (by decide) (by decide) ?_
          show Steps p.tables e below (T9.setTop (mkF m 2 #[.val (.ref a), .val (.int ((Int32.ofNat i) + (1 : Int32)))] [])) _
          exact k
        rw [own_ofsucc]
        exact ih (i + 1) _ _ (by omega) ((own_scan_go (Or.inl ⟨z0, ps⟩)).symm.trans hf) X9 Kq9 N
      · refine own_go (B := T9.setTop (mkF m 63 #[.val (.ref a), .val (.int (Int32.ofNat i))] [(.int (0 : Int32))])) (fun t k => ?_) ?_
        · show Steps p.tables e below (T9.setTop (mkF m 27 #[.val (.ref a), .val (.int (Int32.ofNat i))] [(.int b9)])) _
          refine XS.ifYes X9.here hx rfl (pc0 := 27) (pc' := 36) rfl (hb hby d_prog_62_method_2_27) rfl ((if0 _ _).trans (teq (cq9_1 ps)).1) (by decide) (by decide) ?_
          show Steps p.tables e below (T9.setTop (mkF m 36 #[.val (.ref a), .val (.int (Int32.ofNat i))] [])) _
          refine XS.iloadN X9.here hx rfl (hb hby d_prog_62_method_2_36) rfl ?_
          show Steps p.tables e below (T9.setTop (mkF m 37 #[.val (.ref a), .val (.int (Int32.ofNat i))] [(.int (Int32.ofNat i))])) _
          refine XS.ifYes X9.here hx rfl (pc0 := 37) (pc' := 62) rfl (hb hby d_prog_62_method_2_37) rfl ((if0 _ _).trans (flt (by rw [z0]; decide)).2.2.2) (by decide) (by decide) ?_
          show Steps p.tables e below (T9.setTop (mkF m 62 #[.val (.ref a), .val (.int (Int32.ofNat i))] [])) _
          refine XS.iconst X9.here hx rfl (hb hby d_prog_62_method_2_62) ?_
          show Steps p.tables e below (T9.setTop (mkF m 63 #[.val (.ref a), .val (.int (Int32.ofNat i))] [(.int (0 : Int32))])) _
          exact k
        obtain ⟨fs, hr, hrun, hended, hW, hsame⟩ := X9.leave (v := some (.int (0 : Int32))) (fun h => by rw [Bd.returns] at h; cases h)
        refine ⟨_, _, retN X9 hx (t := .boolean) Bd.returns (by simp) (hb hby d_prog_62_method_2_63) hr, hfin _ _ ⟨hrun, hended, _, _, rfl, ?_, ⟨_, rfl⟩, hW, hsame.mono (by decide) (by decide)⟩⟩
        show QAbs Z a tt kb cs zc fm h0 n0 _ T9.heap _
        exact ⟨(0 : Int32), rfl, N, Kq9, (((own_scan_stop (fun q => q.elim (fun q => ps q.2) (fun q => q.1 z0))).trans (if_neg (fun q => absurd z0 (Nat.ne_of_gt q.1)))).symm.trans hf)⟩
    · refine own_go (B := T8.setTop (mkF m 24 #[.val (.ref a), .val (.int (Int32.ofNat i))] [(.int (0 : Int32)), (.int (cs.getD i 0))])) (fun t k => ?_) ?_
      · show Steps p.tables e below (T8.setTop (mkF m 16 #[.val (.ref a), .val (.int (Int32.ofNat i))] [(.int (Int32.ofNat i)), (.int (cs.getD i 0))])) _
        refine XS.ifYes X8.here hx rfl (pc0 := 16) (pc' := 23) rfl (hb hby d_prog_62_method_2_16) rfl ((if0 _ _).trans (feq (own_ofne hl (Nat.le_of_lt hlt) z0)).2) (by decide) (by decide) ?_
        show Steps p.tables e below (T8.setTop (mkF m 23 #[.val (.ref a), .val (.int (Int32.ofNat i))] [(.int (cs.getD i 0))])) _
        refine XS.iconst X8.here hx rfl (hb hby d_prog_62_method_2_23) ?_
        show Steps p.tables e below (T8.setTop (mkF m 24 #[.val (.ref a), .val (.int (Int32.ofNat i))] [(.int (0 : Int32)), (.int (cs.getD i 0))])) _
        exact k
      -- pc 24: org/bindery/Iri.isSchemeCharacter
      obtain ⟨_, _, ⟨T11, L11, k11, n11⟩, -, X11, ⟨Lc11, hQ11, l11, y11, z11⟩, st11⟩ := Jvm.LawKit.callS X8 hx (y := (⟨"org/bindery/Iri", "isSchemeCharacter", "(CZ)Z"⟩ : MethodName)) hown (mvT hZ (hw _ (List.mem_of_getElem? (i := 80) rfl))) (mvT hZ (hw _ (List.mem_of_getElem? (i := 81) rfl))) (mvT hZ (hw _ (List.mem_of_getElem? (i := 32) rfl))) (mvT hZ (hw _ (List.mem_of_getElem? (i := 82) rfl))) (by decide) (backOf (W := 0) (rmSc0 l Z a0 hw [] (cs.getD i 0) h0 n0 O ) hZ (hw _ (List.mem_of_getElem? (i := 82) rfl)) (hw _ (List.mem_of_getElem? (i := 32) rfl)) (by decide) (by decide)) (g := (mkF m 24 #[.val (.ref a), .val (.int (Int32.ofNat i))] [(.int (0 : Int32)), (.int (cs.getD i 0))])) rfl (by rw [hml]; rfl) (argsL := [(.int (cs.getD i 0)), (.int (0 : Int32))]) (rest := []) (lenOf pd_5 rfl) rfl (by show 2 * 0 + _ ≤ _; exact Nat.le_of_eq rfl) (hb hby d_prog_62_method_2_24) (fun _ hWm => ⟨rfl, e8, (by decide : 0 + 0 ≤ _), (by decide : 0 + 0 ≤ _)⟩)
      dsimp only [Pt.U, Pt.locs, Pt.cells, Pt.slots] at X11 l11 y11 z11 st11 hQ11
      subst l11 y11 z11
      obtain ⟨b11, rfl, Nq11, Kq11, cq11_0, cq11_1⟩ := hQ11
      replace N := Fr.app N Nq11
      refine own_go (B := T11.setTop (mkF m 27 #[.val (.ref a), .val (.int (Int32.ofNat i))] [(.int b11)])) st11 ?_
      by_cases ps : own_lat (cs.getD i 0)
      · refine own_go (B := T11.setTop (mkF m 2 #[.val (.ref a), .val (.int ((Int32.ofNat i) + (1 : Int32)))] [])) (fun t k => ?_) ?_
        · show Steps p.tables e below (T11.setTop (mkF m 27 #[.val (.ref a), .val (.int (Int32.ofNat i))] [(.int b11)])) _
          refine XS.ifNo X11.here hx rfl (hb hby d_prog_62_method_2_27) rfl ((if0 _ _).trans (feq (by rw [cq11_0 ps]; decide)).1) ?_
          show Steps p.tables e below (T11.setTop (mkF m 30 #[.val (.ref a), .val (.int (Int32.ofNat i))] [])) _
          refine XS.iinc X11.here hx rfl (hb hby d_prog_62_method_2_30) rfl (l' := #[.val (.ref a), .val (.int ((Int32.ofNat i) + (1 : Int32)))]) rfl ?_
          show Steps p.tables e below (T11.setTop (mkF m 33 #[.val (.ref a), .val (.int ((Int32.ofNat i) + (1 : Int32)))] [])) _
          refine XS.goto X11.here hx rfl (pc0 := 33) (pc' := 2) rfl (hb hby d_prog_62_method_2_33) (by decide) (by decide) ?_
          show Steps p.tables e below (T11.setTop (mkF m 2 #[.val (.ref a), .val (.int ((Int32.ofNat i) + (1 : Int32)))] [])) _
          exact k
        rw [own_ofsucc]
        exact ih (i + 1) _ _ (by omega) ((own_scan_go (Or.inr ⟨z0, ps⟩)).symm.trans hf) X11 Kq11 N
      · refine own_go (B := T11.setTop (mkF m 42 #[.val (.ref a), .val (.int (Int32.ofNat i))] [(.ref a), (.int (Int32.ofNat i))])) (fun t k => ?_) ?_
        · show Steps p.tables e below (T11.setTop (mkF m 27 #[.val (.ref a), .val (.int (Int32.ofNat i))] [(.int b11)])) _
          refine XS.ifYes X11.here hx rfl (pc0 := 27) (pc' := 36) rfl (hb hby d_prog_62_method_2_27) rfl ((if0 _ _).trans (teq (cq11_1 ps)).1) (by decide) (by decide) ?_
          show Steps p.tables e below (T11.setTop (mkF m 36 #[.val (.ref a), .val (.int (Int32.ofNat i))] [])) _
          refine XS.iloadN X11.here hx rfl (hb hby d_prog_62_method_2_36) rfl ?_
          show Steps p.tables e below (T11.setTop (mkF m 37 #[.val (.ref a), .val (.int (Int32.ofNat i))] [(.int (Int32.ofNat i))])) _
          refine XS.ifNo X11.here hx rfl (hb hby d_prog_62_method_2_37) rfl ((if0 _ _).trans (tlt (own_ofpos hl (by omega) z0)).2.2.2) ?_
          show Steps p.tables e below (T11.setTop (mkF m 40 #[.val (.ref a), .val (.int (Int32.ofNat i))] [])) _
          refine XS.iloadN X11.here hx rfl (hb hby d_prog_62_method_2_40) rfl ?_
          show Steps p.tables e below (T11.setTop (mkF m 41 #[.val (.ref a), .val (.int (Int32.ofNat i))] [(.int (Int32.ofNat i))])) _
          refine XS.aloadN X11.here hx rfl (hb hby d_prog_62_method_2_41) rfl rfl ?_
          show Steps p.tables e below (T11.setTop (mkF m 42 #[.val (.ref a), .val (.int (Int32.ofNat i))] [(.ref a), (.int (Int32.ofNat i))])) _
          exact k
        have hln : ∀ d ∈ StrChars.Road.wordsLen, d.before a0 Z = true := fun d hd => hw d ((by decide +kernel : ∀ d ∈ StrChars.Road.wordsLen, d ∈ tables_1) d hd)
        -- pc 42: java/lang/String.length
        obtain ⟨cq12, kq12, q12a, q12b, q12c⟩ := isOf hZ Kq11 f0
        obtain ⟨_, _, ⟨T12, L12, k12, n12⟩, -, X12, ⟨Lc12, hQ12, l12, y12, z12⟩, st12⟩ := X11.virtualBack hx (y := (⟨"java/lang/String", "length", "()I"⟩ : MethodName)) (z := (⟨"java/lang/String", "length", "()I"⟩ : MethodName)) hown (mvT hZ (hw _ (List.mem_of_getElem? (i := 34) rfl))) (mvT hZ (hw _ (List.mem_of_getElem? (i := 35) rfl))) (notFace_of_selects (args := #[]) (mvT hZ (hw _ (List.mem_of_getElem? (i := 37) rfl)))) (mvT hZ (hw _ (List.mem_of_getElem? (i := 37) rfl))) (mvT hZ (hw _ (List.mem_of_getElem? (i := 36) rfl))) (by decide) (StrChars.Road.lenW (W := 1) hZ hln (kI := 4) (hw _ (List.mem_of_getElem? (i := 7) rfl)) f0 f2 f1 f3 (StrChars.Road.codOf (n := cs.length) rfl (fun c hc => (hbB c hc).2)) (own_up hbB) (S_C.ext O.2) hcs hl (by decide) (by decide)) q12a q12c (g := (mkF m 42 #[.val (.ref a), .val (.int (Int32.ofNat i))] [(.ref a), (.int (Int32.ofNat i))])) rfl (by rw [hml]; rfl) (Steps.refl _) (argsL := []) (rest := [(.int (Int32.ofNat i))]) (lenOf pd_3 rfl) rfl (by show 2 * 0 + _ ≤ _; exact Nat.le_of_eq rfl) (hb hby d_prog_62_method_2_42) (fun _ hWm => ⟨rfl, Kq11, (by decide : 0 + 0 ≤ _), (by decide : 0 + 0 ≤ _)⟩)
        dsimp only [Pt.U, Pt.locs, Pt.cells, Pt.slots] at X12 l12 y12 z12 st12 hQ12
        subst l12 y12 z12
        obtain ⟨rfl, rfl, e12⟩ := hQ12
        replace N := Fr.app N (Fr.nil n0)
        refine own_go (B := T12.setTop (mkF m 45 #[.val (.ref a), .val (.int (Int32.ofNat i))] [(.int (Int32.ofNat cs.length)), (.int (Int32.ofNat i))])) (fun t k => st12.trans k) ?_
        refine own_go (B := T12.setTop (mkF m 50 #[.val (.ref a), .val (.int (Int32.ofNat i))] [(.int (Int32.ofNat i)), (.ref a)])) (fun t k => ?_) ?_
        · show Steps p.tables e below (T12.setTop (mkF m 45 #[.val (.ref a), .val (.int (Int32.ofNat i))] [(.int (Int32.ofNat cs.length)), (.int (Int32.ofNat i))])) _
          refine XS.icmpNo X12.here hx rfl (hb hby d_prog_62_method_2_45) rfl (tlt (own_oflt hl hlt)).2.1 ?_
          show Steps p.tables e below (T12.setTop (mkF m 48 #[.val (.ref a), .val (.int (Int32.ofNat i))] [])) _
          refine XS.aloadN X12.here hx rfl (hb hby d_prog_62_method_2_48) rfl rfl ?_
          show Steps p.tables e below (T12.setTop (mkF m 49 #[.val (.ref a), .val (.int (Int32.ofNat i))] [(.ref a)])) _
          refine XS.iloadN X12.here hx rfl (hb hby d_prog_62_method_2_49) rfl ?_
          show Steps p.tables e below (T12.setTop (mkF m 50 #[.val (.ref a), .val (.int (Int32.ofNat i))] [(.int (Int32.ofNat i)), (.ref a)])) _
          exact k
        have hch : ∀ d ∈ StrChars.Road.wordsChN, d.before a0 Z = true := fun d hd => hw d ((by decide +kernel : ∀ d ∈ StrChars.Road.wordsChN, d ∈ tables_1) d hd)
        -- pc 50: java/lang/String.charAt
        obtain ⟨cq13, kq13, q13a, q13b, q13c⟩ := isOf hZ e12 f0
        obtain ⟨_, _, ⟨T13, L13, k13, n13⟩, -, X13, ⟨Lc13, hQ13, l13, y13, z13⟩, st13⟩ := X12.virtualBack hx (y := (⟨"java/lang/String", "charAt", "(I)C"⟩ : MethodName)) (z := (⟨"java/lang/String", "charAt", "(I)C"⟩ : MethodName)) hown (mvT hZ (hw _ (List.mem_of_getElem? (i := 58) rfl))) (mvT hZ (hw _ (List.mem_of_getElem? (i := 59) rfl))) (notFace_of_selects (args := #[]) (mvT hZ (hw _ (List.mem_of_getElem? (i := 61) rfl)))) (mvT hZ (hw _ (List.mem_of_getElem? (i := 61) rfl))) (mvT hZ (hw _ (List.mem_of_getElem? (i := 60) rfl))) (by decide) (StrChars.Road.chN (W := 0) hZ hch (kI := 4) (hw _ (List.mem_of_getElem? (i := 7) rfl)) f0 f2 f1 f3 (StrChars.Road.codOf (n := cs.length) rfl (fun c hc => (hbB c hc).2)) (own_up hbB) (S_C.ext O.2) hcs (S_F.ext O.2) rF hl (i := i) hlt (j := (Int32.ofNat i)) rfl (by decide) (by decide)) q13a q13c (g := (mkF m 50 #[.val (.ref a), .val (.int (Int32.ofNat i))] [(.int (Int32.ofNat i)), (.ref a)])) rfl (by rw [hml]; rfl) (Steps.refl _) (argsL := [(.int (Int32.ofNat i))]) (rest := []) (lenOf pd_4 rfl) rfl (by show 2 * 0 + _ ≤ _; exact Nat.le_of_eq rfl) (hb hby d_prog_62_method_2_50) (fun _ hWm => ⟨rfl, e12, (by decide : 0 + 0 ≤ _), (by decide : 0 + 0 ≤ _)⟩)
        dsimp only [Pt.U, Pt.locs, Pt.cells, Pt.slots] at X13 l13 y13 z13 st13 hQ13
        subst l13 y13 z13
        obtain ⟨rfl, rfl, e13⟩ := hQ13
        replace N := Fr.app N (Fr.nil n0)
        refine own_go (B := T13.setTop (mkF m 53 #[.val (.ref a), .val (.int (Int32.ofNat i))] [(.int (cs.getD i 0))])) (fun t k => st13.trans k) ?_
        refine own_go (B := T13.setTop (mkF m 55 #[.val (.ref a), .val (.int (Int32.ofNat i))] [(.int (58 : Int32)), (.int (cs.getD i 0))])) (fun t k => ?_) ?_
        · show Steps p.tables e below (T13.setTop (mkF m 53 #[.val (.ref a), .val (.int (Int32.ofNat i))] [(.int (cs.getD i 0))])) _
          refine XS.bipush X13.here hx rfl (hb hby d_prog_62_method_2_53) ?_
          show Steps p.tables e below (T13.setTop (mkF m 55 #[.val (.ref a), .val (.int (Int32.ofNat i))] [(.int (58 : Int32)), (.int (cs.getD i 0))])) _
          exact k
        by_cases e58 : (cs.getD i 0) = (58 : Int32)
        · refine own_go (B := T13.setTop (mkF m 63 #[.val (.ref a), .val (.int (Int32.ofNat i))] [(.int (1 : Int32))])) (fun t k => ?_) ?_
          · show Steps p.tables e below (T13.setTop (mkF m 55 #[.val (.ref a), .val (.int (Int32.ofNat i))] [(.int (58 : Int32)), (.int (cs.getD i 0))])) _
            refine XS.icmpNo X13.here hx rfl (hb hby d_prog_62_method_2_55) rfl (teq e58).2 ?_
            show Steps p.tables e below (T13.setTop (mkF m 58 #[.val (.ref a), .val (.int (Int32.ofNat i))] [])) _
            refine XS.iconst X13.here hx rfl (hb hby d_prog_62_method_2_58) ?_
            show Steps p.tables e below (T13.setTop (mkF m 59 #[.val (.ref a), .val (.int (Int32.ofNat i))] [(.int (1 : Int32))])) _
            refine XS.goto X13.here hx rfl (pc0 := 59) (pc' := 63) rfl (hb hby d_prog_62_method_2_59) (by decide) (by decide) ?_
            show Steps p.tables e below (T13.setTop (mkF m 63 #[.val (.ref a), .val (.int (Int32.ofNat i))] [(.int (1 : Int32))])) _
            exact k
          obtain ⟨fs, hr, hrun, hended, hW, hsame⟩ := X13.leave (v := some (.int (1 : Int32))) (fun h => by rw [Bd.returns] at h; cases h)
          refine ⟨_, _, retN X13 hx (t := .boolean) Bd.returns (by simp) (hb hby d_prog_62_method_2_63) hr, hfin _ _ ⟨hrun, hended, _, _, rfl, ?_, ⟨_, rfl⟩, hW, hsame.mono (by decide) (by decide)⟩⟩
          show QAbs Z a tt kb cs zc fm h0 n0 _ T13.heap _
          exact ⟨(1 : Int32), rfl, N, e13, (((own_scan_stop (fun q => q.elim (fun q => z0 q.1) (fun q => ps q.2))).trans (if_pos ⟨Nat.pos_of_ne_zero z0, hlt, e58⟩)).symm.trans hf)⟩
        · refine own_go (B := T13.setTop (mkF m 63 #[.val (.ref a), .val (.int (Int32.ofNat i))] [(.int (0 : Int32))])) (fun t k => ?_) ?_
          · show Steps p.tables e below (T13.setTop (mkF m 55 #[.val (.ref a), .val (.int (Int32.ofNat i))] [(.int (58 : Int32)), (.int (cs.getD i 0))])) _
            refine XS.icmpYes X13.here hx rfl (pc0 := 55) (pc' := 62) rfl (hb hby d_prog_62_method_2_55) rfl (feq e58).2 (by decide) (by decide) ?_
            show Steps p.tables e below (T13.setTop (mkF m 62 #[.val (.ref a), .val (.int (Int32.ofNat i))] [])) _
            refine XS.iconst X13.here hx rfl (hb hby d_prog_62_method_2_62) ?_
            show Steps p.tables e below (T13.setTop (mkF m 63 #[.val (.ref a), .val (.int (Int32.ofNat i))] [(.int (0 : Int32))])) _
            exact k
          obtain ⟨fs, hr, hrun, hended, hW, hsame⟩ := X13.leave (v := some (.int (0 : Int32))) (fun h => by rw [Bd.returns] at h; cases h)
          refine ⟨_, _, retN X13 hx (t := .boolean) Bd.returns (by simp) (hb hby d_prog_62_method_2_63) hr, hfin _ _ ⟨hrun, hended, _, _, rfl, ?_, ⟨_, rfl⟩, hW, hsame.mono (by decide) (by decide)⟩⟩
          show QAbs Z a tt kb cs zc fm h0 n0 _ T13.heap _
          exact ⟨(0 : Int32), rfl, N, e13, (((own_scan_stop (fun q => q.elim (fun q => z0 q.1) (fun q => ps q.2))).trans (if_neg (fun q => e58 q.2.2))).symm.trans hf)⟩
def Q0 (Z : State) (p1 : Int32) (p2 : Int32) (p3 : Int32) (p4 : Int32) (p5 : Int32) (p6 : Int32) (zc : Int32) (fm : Value) (h0 : Heap) (n0 : Nat) (v : Option Value) (h : Heap) (L : List Loc) : Prop := v = some (.int 1) ∧ Fr n0 L
theorem ef_0 (m : MethodId) (p1 : Int32) (p2 : Int32) (p3 : Int32) (p4 : Int32) (p5 : Int32) (p6 : Int32) : entryFrame m #[(.int p1), (.int p2), (.int p3), (.int p4), (.int p5), (.int p6)] maxLocals = mkF m 0 #[.val (.int p1), .val (.int p2), .val (.int p3), .val (.int p4), .val (.int p5), .val (.int p6), .unset, .unset, .unset, .unset] [] := by first | (simp [entryFrame, mkF, argsToLocals, Value.category, maxLocals]; done) | rfl | (rfl)
set_option maxRecDepth 65536 in
set_option maxHeartbeats 40000000 in
theorem rm0 (l : Launch) (Z : State) (a0 : Array Value) (hw : ∀ d ∈ tables_1, d.before a0 Z = true) (ws : List Jvm.Cond) (p1 : Int32) (p2 : Int32) (p3 : Int32) (p4 : Int32) (p5 : Int32) (p6 : Int32) (zc : Int32) (fm : Value) (h0 : Heap) (n0 : Nat) (O : Old Z n0 h0) (S_C : Sta Z Z.heap "java/lang/String" "COMPACT_STRINGS" "Z" (.int zc)) (S_F : Sta Z Z.heap "jdk/internal/util/Preconditions" "SIOOBE_FORMATTER" "Ljava/util/function/BiFunction;" fm) (hcs : ¬ zc = (0 : Int32)) (rF : fm.isRef = true) (hcH : Jvm.Lit.constHeld Z "java/lang/String" 7) (hcw : Jvm.Lit.compactW.before a0 Z = true) :
    MetFree l x (head1 (Jvm.Cond.code x code maxLocals ret :: ws) room_1) (fun as_ U => as_ = #[(.int p1), (.int p2), (.int p3), (.int p4), (.int p5), (.int p6)] ∧ Z.Warmed39 U.vm ∧ U.heap = h0 ∧ Em Z U.vm h0) (fun _ _ _ _ _ => True) (fun _ U oo_ U' => ∃ vv_ LL_, oo_ = .returned vv_ ∧ Q0 Z p1 p2 p3 p4 p5 p6 zc fm h0 n0 vv_ U'.heap LL_ ∧ ReturnedEndW U oo_ U' LL_ room_1.cells room_1.slots) := by
  refine MetFree.of_bodySF (plainFor_of_name pn_1) hisR ?_
  intro p e s m args below meth c s₁ Bd hml0 hP hK
  obtain ⟨rfl, hZ, hh, M⟩ := hP
  have hx := Bd.exec
  have hby := Bd.bytes
  have hml : c.maxLocals = 10 := hml0
  have hown : s.vm.findClass "org/bindery/IriIsAbsolutePinLaw" = some m.cls := findClass_of_methodNamed Bd.named
  have hnm := (name_of_methodNamed Bd.named Bd.method).1
  have X0 : Stand p l e room_1 (s.setVm s.vm) m #[(.int p1), (.int p2), (.int p3), (.int p4), (.int p5), (.int p6)] below meth c s₁ [] 0 0 := Stand.of_body Bd
  have e0 : s₁.heap = h0 := by rw [← hh, Bd.state]; rfl
  have N := Fr.nil n0
  have hown : (s.setVm s.vm).vm.findClass "org/bindery/IriIsAbsolutePinLaw" = some m.cls := hown
  have hZ : Z.Warmed39 (s.setVm s.vm).vm := hZ
  have hS : s.Since s.vm h0.size := (State.WarmedH.refl s).since _
  have hk : h0.size ≤ h0.size := Nat.le_refl _
  refine own_go (B := s₁.setTop (mkF m 0 #[.val (.int p1), .val (.int p2), .val (.int p3), .val (.int p4), .val (.int p5), .val (.int p6), .unset, .unset, .unset, .unset] [])) (fun t k => castTop (ef_0 m p1 p2 p3 p4 p5 p6) k) ?_
  have KM : Keep h0 h0 [] := Keep.refl h0 _
  refine own_abs (fun P hfin => ?_)
  refine own_go (B := s₁.setTop (mkF m 9 #[.val (.int p1), .val (.int p2), .val (.int p3), .val (.int p4), .val (.int p5), .val (.int p6), .val (.int ((p1 &&& (2147483647 : Int32)) % (6 : Int32))), .unset, .unset, .unset] [])) (fun t k => ?_) ?_
  · show Steps p.tables e below (s₁.setTop (mkF m 0 #[.val (.int p1), .val (.int p2), .val (.int p3), .val (.int p4), .val (.int p5), .val (.int p6), .unset, .unset, .unset, .unset] [])) _
    refine XS.iloadN X0.here hx rfl (hb hby at_0) rfl ?_
    show Steps p.tables e below (s₁.setTop (mkF m 1 #[.val (.int p1), .val (.int p2), .val (.int p3), .val (.int p4), .val (.int p5), .val (.int p6), .unset, .unset, .unset, .unset] [(.int p1)])) _
    refine X0.ldcInt hx hown (mvT hZ (hw _ (List.mem_of_getElem? (i := 0) rfl))) (g := (mkF m 1 #[.val (.int p1), .val (.int p2), .val (.int p3), .val (.int p4), .val (.int p5), .val (.int p6), .unset, .unset, .unset, .unset] [(.int p1)])) rfl (hb hby at_1) _ ?_
    show Steps p.tables e below (s₁.setTop (mkF m 3 #[.val (.int p1), .val (.int p2), .val (.int p3), .val (.int p4), .val (.int p5), .val (.int p6), .unset, .unset, .unset, .unset] [(.int (2147483647 : Int32)), (.int p1)])) _
    refine XS.iand X0.here hx rfl (hb hby at_3) rfl ?_
    show Steps p.tables e below (s₁.setTop (mkF m 4 #[.val (.int p1), .val (.int p2), .val (.int p3), .val (.int p4), .val (.int p5), .val (.int p6), .unset, .unset, .unset, .unset] [(.int (p1 &&& (2147483647 : Int32)))])) _
    refine XS.bipush X0.here hx rfl (hb hby at_4) ?_
    show Steps p.tables e below (s₁.setTop (mkF m 6 #[.val (.int p1), .val (.int p2), .val (.int p3), .val (.int p4), .val (.int p5), .val (.int p6), .unset, .unset, .unset, .unset] [(.int (6 : Int32)), (.int (p1 &&& (2147483647 : Int32)))])) _
    refine Jvm.RoadKit.iremM (g := (mkF m 6 #[.val (.int p1), .val (.int p2), .val (.int p3), .val (.int p4), .val (.int p5), .val (.int p6), .unset, .unset, .unset, .unset] [(.int (6 : Int32)), (.int (p1 &&& (2147483647 : Int32)))])) X0 hx rfl (hb hby at_6) rfl (by decide) ?_
    show Steps p.tables e below (s₁.setTop (mkF m 7 #[.val (.int p1), .val (.int p2), .val (.int p3), .val (.int p4), .val (.int p5), .val (.int p6), .unset, .unset, .unset, .unset] [(.int ((p1 &&& (2147483647 : Int32)) % (6 : Int32)))])) _
    refine XS.istore X0.here hx rfl (hb hby at_7) rfl (l' := #[.val (.int p1), .val (.int p2), .val (.int p3), .val (.int p4), .val (.int p5), .val (.int p6), .val (.int ((p1 &&& (2147483647 : Int32)) % (6 : Int32))), .unset, .unset, .unset]) rfl ?_
    show Steps p.tables e below (s₁.setTop (mkF m 9 #[.val (.int p1), .val (.int p2), .val (.int p3), .val (.int p4), .val (.int p5), .val (.int p6), .val (.int ((p1 &&& (2147483647 : Int32)) % (6 : Int32))), .unset, .unset, .unset] [])) _
    exact k
  obtain ⟨nn, hnn⟩ : ∃ z : Int32, z = ((p1 &&& (2147483647 : Int32)) % (6 : Int32)) := ⟨_, rfl⟩
  rw [← hnn]
  have bnn : nn = (0 : Int32) ∨ nn = (1 : Int32) ∨ nn = (2 : Int32) ∨ nn = (3 : Int32) ∨ nn = (4 : Int32) ∨ nn = (5 : Int32) := by rw [hnn]; exact own_len6 _
  refine own_go (B := s₁.setTop (mkF m 10 #[.val (.int p1), .val (.int p2), .val (.int p3), .val (.int p4), .val (.int p5), .val (.int p6), .val (.int nn), .unset, .unset, .unset] [(.int (5 : Int32))])) (fun t k => ?_) ?_
  · show Steps p.tables e below (s₁.setTop (mkF m 9 #[.val (.int p1), .val (.int p2), .val (.int p3), .val (.int p4), .val (.int p5), .val (.int p6), .val (.int nn), .unset, .unset, .unset] [])) _
    refine XS.iconst X0.here hx rfl (hb hby at_9) ?_
    show Steps p.tables e below (s₁.setTop (mkF m 10 #[.val (.int p1), .val (.int p2), .val (.int p3), .val (.int p4), .val (.int p5), .val (.int p6), .val (.int nn), .unset, .unset, .unset] [(.int (5 : Int32))])) _
    exact k
  obtain ⟨T1, h1, k1, X1, e1, E1, A1, G1, st1⟩ := newPE X0 hx hZ (hw _ (List.mem_of_getElem? (i := 1) rfl)) e0 (g := (mkF m 10 #[.val (.int p1), .val (.int p2), .val (.int p3), .val (.int p4), .val (.int p5), .val (.int p6), .val (.int nn), .unset, .unset, .unset] [(.int (5 : Int32))])) rfl (hb hby at_10) rfl (by decide) (cap := 5) (by decide) (by decide) (by decide) (by decide) (ad := "[C") (by decide)
  obtain ⟨b1, g1⟩ : ∃ z, z = h0.size := ⟨_, rfl⟩
  rw [← g1] at A1 G1 st1
  have g_b1 : n0 ≤ b1 := Nat.le_trans (own_oldsz O) (Nat.le_of_eq g1.symm)
  have m_b1_1 : h0.size ≤ b1 := Nat.le_trans KM.1 (Nat.le_of_eq g1.symm)
  replace O := O.ext E1
  replace hk := Nat.le_trans hk E1.1
  replace KM := KM.ext E1
  have V1 : Arv Z h1 b1 k1 .char (5 : Int32) [(.int (0 : Int32)), (.int (0 : Int32)), (.int (0 : Int32)), (.int (0 : Int32)), (.int (0 : Int32))] (.int (0 : Int32)) := (Arv.new A1 (by decide)).pad (pad_rep [] (.int (0 : Int32)) 5)
  refine own_go (B := T1.setTop (mkF m 12 #[.val (.int p1), .val (.int p2), .val (.int p3), .val (.int p4), .val (.int p5), .val (.int p6), .val (.int nn), .unset, .unset, .unset] [(.ref b1)])) st1 ?_
  refine own_go (B := T1.setTop (mkF m 20 #[.val (.int p1), .val (.int p2), .val (.int p3), .val (.int p4), .val (.int p5), .val (.int p6), .val (.int nn), .unset, .unset, .unset] [(.int ((p2 &&& (255 : Int32)).toUInt32.toUInt16.toUInt32.toInt32)), (.int (0 : Int32)), (.ref b1), (.ref b1)])) (fun t k => ?_) ?_
  · show Steps p.tables e below (T1.setTop (mkF m 12 #[.val (.int p1), .val (.int p2), .val (.int p3), .val (.int p4), .val (.int p5), .val (.int p6), .val (.int nn), .unset, .unset, .unset] [(.ref b1)])) _
    refine XS.dup X1.here hx rfl (hb hby at_12) rfl rfl ?_
    show Steps p.tables e below (T1.setTop (mkF m 13 #[.val (.int p1), .val (.int p2), .val (.int p3), .val (.int p4), .val (.int p5), .val (.int p6), .val (.int nn), .unset, .unset, .unset] [(.ref b1), (.ref b1)])) _
    refine XS.iconst X1.here hx rfl (hb hby at_13) ?_
    show Steps p.tables e below (T1.setTop (mkF m 14 #[.val (.int p1), .val (.int p2), .val (.int p3), .val (.int p4), .val (.int p5), .val (.int p6), .val (.int nn), .unset, .unset, .unset] [(.int (0 : Int32)), (.ref b1), (.ref b1)])) _
    refine XS.iloadN X1.here hx rfl (hb hby at_14) rfl ?_
    show Steps p.tables e below (T1.setTop (mkF m 15 #[.val (.int p1), .val (.int p2), .val (.int p3), .val (.int p4), .val (.int p5), .val (.int p6), .val (.int nn), .unset, .unset, .unset] [(.int p2), (.int (0 : Int32)), (.ref b1), (.ref b1)])) _
    refine XS.sipush X1.here hx rfl (hb hby at_15) ?_
    show Steps p.tables e below (T1.setTop (mkF m 18 #[.val (.int p1), .val (.int p2), .val (.int p3), .val (.int p4), .val (.int p5), .val (.int p6), .val (.int nn), .unset, .unset, .unset] [(.int (255 : Int32)), (.int p2), (.int (0 : Int32)), (.ref b1), (.ref b1)])) _
    refine XS.iand X1.here hx rfl (hb hby at_18) rfl ?_
    show Steps p.tables e below (T1.setTop (mkF m 19 #[.val (.int p1), .val (.int p2), .val (.int p3), .val (.int p4), .val (.int p5), .val (.int p6), .val (.int nn), .unset, .unset, .unset] [(.int (p2 &&& (255 : Int32))), (.int (0 : Int32)), (.ref b1), (.ref b1)])) _
    refine XS.i2c X1.here hx rfl (hb hby at_19) rfl ?_
    show Steps p.tables e below (T1.setTop (mkF m 20 #[.val (.int p1), .val (.int p2), .val (.int p3), .val (.int p4), .val (.int p5), .val (.int p6), .val (.int nn), .unset, .unset, .unset] [(.int ((p2 &&& (255 : Int32)).toUInt32.toUInt16.toUInt32.toInt32)), (.int (0 : Int32)), (.ref b1), (.ref b1)])) _
    exact k
  rw [i2c_mask]
  obtain ⟨c0, hc0⟩ : ∃ z : Int32, z = (p2 &&& (255 : Int32)) := ⟨_, rfl⟩
  rw [← hc0]
  have bc0 : ¬ c0 < 0 ∧ ¬ (255 : Int32) < c0 := by rw [hc0]; exact own_b255 _
  have cc0 : nar .char c0 = c0 := by rw [hc0]; exact i2c_mask _
  obtain ⟨cl2, Ar2, q2, Sz2, Nn2, Hs2, Gt2⟩ := V1
  have hin2 : ¬ ((0 : Int32) < 0 ∨ cl2.slots.size ≤ ((0 : Int32)).toNatClampNeg) := inb_of Sz2 ⟨by decide, by decide⟩
  obtain ⟨T2, h2, X2, e2, W2, st2⟩ := stC X1 hx hZ e1 Ar2 (j := (0 : Int32)) hin2 (g := (mkF m 20 #[.val (.int p1), .val (.int p2), .val (.int p3), .val (.int p4), .val (.int p5), .val (.int p6), .val (.int nn), .unset, .unset, .unset] [(.int c0), (.int (0 : Int32)), (.ref b1), (.ref b1)])) rfl rfl (hb hby at_20)
  have V2 := Arv.set Ar2 q2 Sz2 Nn2 Hs2 Gt2 (fits_nar_char _) W2 0 rfl (Nat.le_of_ble_eq_true rfl)
  rw [cc0] at V2
  have V2 : Arv Z h2 b1 k1 .char (5 : Int32) [(.int c0), (.int (0 : Int32)), (.int (0 : Int32)), (.int (0 : Int32)), (.int (0 : Int32))] (.int (0 : Int32)) := V2
  replace G1 := G1.wr W2
  replace O := O.wr W2 g_b1
  replace hk := Nat.le_trans hk (Keep.of_wr W2).1
  replace KM := KM.wr W2 (Or.inr m_b1_1)
  replace N := Fr.snoc X2 N g_b1
  refine own_go (B := T2.setTop (mkF m 21 #[.val (.int p1), .val (.int p2), .val (.int p3), .val (.int p4), .val (.int p5), .val (.int p6), .val (.int nn), .unset, .unset, .unset] [(.ref b1)])) st2 ?_
  refine own_go (B := T2.setTop (mkF m 29 #[.val (.int p1), .val (.int p2), .val (.int p3), .val (.int p4), .val (.int p5), .val (.int p6), .val (.int nn), .unset, .unset, .unset] [(.int ((p3 &&& (255 : Int32)).toUInt32.toUInt16.toUInt32.toInt32)), (.int (1 : Int32)), (.ref b1), (.ref b1)])) (fun t k => ?_) ?_
  · show Steps p.tables e below (T2.setTop (mkF m 21 #[.val (.int p1), .val (.int p2), .val (.int p3), .val (.int p4), .val (.int p5), .val (.int p6), .val (.int nn), .unset, .unset, .unset] [(.ref b1)])) _
    refine XS.dup X2.here hx rfl (hb hby at_21) rfl rfl ?_
    show Steps p.tables e below (T2.setTop (mkF m 22 #[.val (.int p1), .val (.int p2), .val (.int p3), .val (.int p4), .val (.int p5), .val (.int p6), .val (.int nn), .unset, .unset, .unset] [(.ref b1), (.ref b1)])) _
    refine XS.iconst X2.here hx rfl (hb hby at_22) ?_
    show Steps p.tables e below (T2.setTop (mkF m 23 #[.val (.int p1), .val (.int p2), .val (.int p3), .val (.int p4), .val (.int p5), .val (.int p6), .val (.int nn), .unset, .unset, .unset] [(.int (1 : Int32)), (.ref b1), (.ref b1)])) _
    refine XS.iloadN X2.here hx rfl (hb hby at_23) rfl ?_
    show Steps p.tables e below (T2.setTop (mkF m 24 #[.val (.int p1), .val (.int p2), .val (.int p3), .val (.int p4), .val (.int p5), .val (.int p6), .val (.int nn), .unset, .unset, .unset] [(.int p3), (.int (1 : Int32)), (.ref b1), (.ref b1)])) _
    refine XS.sipush X2.here hx rfl (hb hby at_24) ?_
    show Steps p.tables e below (T2.setTop (mkF m 27 #[.val (.int p1), .val (.int p2), .val (.int p3), .val (.int p4), .val (.int p5), .val (.int p6), .val (.int nn), .unset, .unset, .unset] [(.int (255 : Int32)), (.int p3), (.int (1 : Int32)), (.ref b1), (.ref b1)])) _
    refine XS.iand X2.here hx rfl (hb hby at_27) rfl ?_
    show Steps p.tables e below (T2.setTop (mkF m 28 #[.val (.int p1), .val (.int p2), .val (.int p3), .val (.int p4), .val (.int p5), .val (.int p6), .val (.int nn), .unset, .unset, .unset] [(.int (p3 &&& (255 : Int32))), (.int (1 : Int32)), (.ref b1), (.ref b1)])) _
    refine XS.i2c X2.here hx rfl (hb hby at_28) rfl ?_
    show Steps p.tables e below (T2.setTop (mkF m 29 #[.val (.int p1), .val (.int p2), .val (.int p3), .val (.int p4), .val (.int p5), .val (.int p6), .val (.int nn), .unset, .unset, .unset] [(.int ((p3 &&& (255 : Int32)).toUInt32.toUInt16.toUInt32.toInt32)), (.int (1 : Int32)), (.ref b1), (.ref b1)])) _
    exact k
  rw [i2c_mask]
  obtain ⟨c1, hc1⟩ : ∃ z : Int32, z = (p3 &&& (255 : Int32)) := ⟨_, rfl⟩
  rw [← hc1]
  have bc1 : ¬ c1 < 0 ∧ ¬ (255 : Int32) < c1 := by rw [hc1]; exact own_b255 _
  have cc1 : nar .char c1 = c1 := by rw [hc1]; exact i2c_mask _
  obtain ⟨cl3, Ar3, q3, Sz3, Nn3, Hs3, Gt3⟩ := V2
  have hin3 : ¬ ((1 : Int32) < 0 ∨ cl3.slots.size ≤ ((1 : Int32)).toNatClampNeg) := inb_of Sz3 ⟨by decide, by decide⟩
  obtain ⟨T3, h3, X3, e3, W3, st3⟩ := stC X2 hx hZ e2 Ar3 (j := (1 : Int32)) hin3 (g := (mkF m 29 #[.val (.int p1), .val (.int p2), .val (.int p3), .val (.int p4), .val (.int p5), .val (.int p6), .val (.int nn), .unset, .unset, .unset] [(.int c1), (.int (1 : Int32)), (.ref b1), (.ref b1)])) rfl rfl (hb hby at_29)
  have V3 := Arv.set Ar3 q3 Sz3 Nn3 Hs3 Gt3 (fits_nar_char _) W3 1 rfl (Nat.le_of_ble_eq_true rfl)
  rw [cc1] at V3
  have V3 : Arv Z h3 b1 k1 .char (5 : Int32) [(.int c0), (.int c1), (.int (0 : Int32)), (.int (0 : Int32)), (.int (0 : Int32))] (.int (0 : Int32)) := V3
  replace G1 := G1.wr W3
  replace O := O.wr W3 g_b1
  replace hk := Nat.le_trans hk (Keep.of_wr W3).1
  replace KM := KM.wr W3 (Or.inr m_b1_1)
  replace N := Fr.snoc X3 N g_b1
  refine own_go (B := T3.setTop (mkF m 30 #[.val (.int p1), .val (.int p2), .val (.int p3), .val (.int p4), .val (.int p5), .val (.int p6), .val (.int nn), .unset, .unset, .unset] [(.ref b1)])) st3 ?_
  refine own_go (B := T3.setTop (mkF m 38 #[.val (.int p1), .val (.int p2), .val (.int p3), .val (.int p4), .val (.int p5), .val (.int p6), .val (.int nn), .unset, .unset, .unset] [(.int ((p4 &&& (255 : Int32)).toUInt32.toUInt16.toUInt32.toInt32)), (.int (2 : Int32)), (.ref b1), (.ref b1)])) (fun t k => ?_) ?_
  · show Steps p.tables e below (T3.setTop (mkF m 30 #[.val (.int p1), .val (.int p2), .val (.int p3), .val (.int p4), .val (.int p5), .val (.int p6), .val (.int nn), .unset, .unset, .unset] [(.ref b1)])) _
    refine XS.dup X3.here hx rfl (hb hby at_30) rfl rfl ?_
    show Steps p.tables e below (T3.setTop (mkF m 31 #[.val (.int p1), .val (.int p2), .val (.int p3), .val (.int p4), .val (.int p5), .val (.int p6), .val (.int nn), .unset, .unset, .unset] [(.ref b1), (.ref b1)])) _
    refine XS.iconst X3.here hx rfl (hb hby at_31) ?_
    show Steps p.tables e below (T3.setTop (mkF m 32 #[.val (.int p1), .val (.int p2), .val (.int p3), .val (.int p4), .val (.int p5), .val (.int p6), .val (.int nn), .unset, .unset, .unset] [(.int (2 : Int32)), (.ref b1), (.ref b1)])) _
    refine XS.iloadN X3.here hx rfl (hb hby at_32) rfl ?_
    show Steps p.tables e below (T3.setTop (mkF m 33 #[.val (.int p1), .val (.int p2), .val (.int p3), .val (.int p4), .val (.int p5), .val (.int p6), .val (.int nn), .unset, .unset, .unset] [(.int p4), (.int (2 : Int32)), (.ref b1), (.ref b1)])) _
    refine XS.sipush X3.here hx rfl (hb hby at_33) ?_
    show Steps p.tables e below (T3.setTop (mkF m 36 #[.val (.int p1), .val (.int p2), .val (.int p3), .val (.int p4), .val (.int p5), .val (.int p6), .val (.int nn), .unset, .unset, .unset] [(.int (255 : Int32)), (.int p4), (.int (2 : Int32)), (.ref b1), (.ref b1)])) _
    refine XS.iand X3.here hx rfl (hb hby at_36) rfl ?_
    show Steps p.tables e below (T3.setTop (mkF m 37 #[.val (.int p1), .val (.int p2), .val (.int p3), .val (.int p4), .val (.int p5), .val (.int p6), .val (.int nn), .unset, .unset, .unset] [(.int (p4 &&& (255 : Int32))), (.int (2 : Int32)), (.ref b1), (.ref b1)])) _
    refine XS.i2c X3.here hx rfl (hb hby at_37) rfl ?_
    show Steps p.tables e below (T3.setTop (mkF m 38 #[.val (.int p1), .val (.int p2), .val (.int p3), .val (.int p4), .val (.int p5), .val (.int p6), .val (.int nn), .unset, .unset, .unset] [(.int ((p4 &&& (255 : Int32)).toUInt32.toUInt16.toUInt32.toInt32)), (.int (2 : Int32)), (.ref b1), (.ref b1)])) _
    exact k
  rw [i2c_mask]
  obtain ⟨c2, hc2⟩ : ∃ z : Int32, z = (p4 &&& (255 : Int32)) := ⟨_, rfl⟩
  rw [← hc2]
  have bc2 : ¬ c2 < 0 ∧ ¬ (255 : Int32) < c2 := by rw [hc2]; exact own_b255 _
  have cc2 : nar .char c2 = c2 := by rw [hc2]; exact i2c_mask _
  obtain ⟨cl4, Ar4, q4, Sz4, Nn4, Hs4, Gt4⟩ := V3
  have hin4 : ¬ ((2 : Int32) < 0 ∨ cl4.slots.size ≤ ((2 : Int32)).toNatClampNeg) := inb_of Sz4 ⟨by decide, by decide⟩
  obtain ⟨T4, h4, X4, e4, W4, st4⟩ := stC X3 hx hZ e3 Ar4 (j := (2 : Int32)) hin4 (g := (mkF m 38 #[.val (.int p1), .val (.int p2), .val (.int p3), .val (.int p4), .val (.int p5), .val (.int p6), .val (.int nn), .unset, .unset, .unset] [(.int c2), (.int (2 : Int32)), (.ref b1), (.ref b1)])) rfl rfl (hb hby at_38)
  have V4 := Arv.set Ar4 q4 Sz4 Nn4 Hs4 Gt4 (fits_nar_char _) W4 2 rfl (Nat.le_of_ble_eq_true rfl)
  rw [cc2] at V4
  have V4 : Arv Z h4 b1 k1 .char (5 : Int32) [(.int c0), (.int c1), (.int c2), (.int (0 : Int32)), (.int (0 : Int32))] (.int (0 : Int32)) := V4
  replace G1 := G1.wr W4
  replace O := O.wr W4 g_b1
  replace hk := Nat.le_trans hk (Keep.of_wr W4).1
  replace KM := KM.wr W4 (Or.inr m_b1_1)
  replace N := Fr.snoc X4 N g_b1
  refine own_go (B := T4.setTop (mkF m 39 #[.val (.int p1), .val (.int p2), .val (.int p3), .val (.int p4), .val (.int p5), .val (.int p6), .val (.int nn), .unset, .unset, .unset] [(.ref b1)])) st4 ?_
  refine own_go (B := T4.setTop (mkF m 48 #[.val (.int p1), .val (.int p2), .val (.int p3), .val (.int p4), .val (.int p5), .val (.int p6), .val (.int nn), .unset, .unset, .unset] [(.int ((p5 &&& (255 : Int32)).toUInt32.toUInt16.toUInt32.toInt32)), (.int (3 : Int32)), (.ref b1), (.ref b1)])) (fun t k => ?_) ?_
  · show Steps p.tables e below (T4.setTop (mkF m 39 #[.val (.int p1), .val (.int p2), .val (.int p3), .val (.int p4), .val (.int p5), .val (.int p6), .val (.int nn), .unset, .unset, .unset] [(.ref b1)])) _
    refine XS.dup X4.here hx rfl (hb hby at_39) rfl rfl ?_
    show Steps p.tables e below (T4.setTop (mkF m 40 #[.val (.int p1), .val (.int p2), .val (.int p3), .val (.int p4), .val (.int p5), .val (.int p6), .val (.int nn), .unset, .unset, .unset] [(.ref b1), (.ref b1)])) _
    refine XS.iconst X4.here hx rfl (hb hby at_40) ?_
    show Steps p.tables e below (T4.setTop (mkF m 41 #[.val (.int p1), .val (.int p2), .val (.int p3), .val (.int p4), .val (.int p5), .val (.int p6), .val (.int nn), .unset, .unset, .unset] [(.int (3 : Int32)), (.ref b1), (.ref b1)])) _
    refine XS.iload X4.here hx rfl (hb hby at_41) rfl ?_
    show Steps p.tables e below (T4.setTop (mkF m 43 #[.val (.int p1), .val (.int p2), .val (.int p3), .val (.int p4), .val (.int p5), .val (.int p6), .val (.int nn), .unset, .unset, .unset] [(.int p5), (.int (3 : Int32)), (.ref b1), (.ref b1)])) _
    refine XS.sipush X4.here hx rfl (hb hby at_43) ?_
    show Steps p.tables e below (T4.setTop (mkF m 46 #[.val (.int p1), .val (.int p2), .val (.int p3), .val (.int p4), .val (.int p5), .val (.int p6), .val (.int nn), .unset, .unset, .unset] [(.int (255 : Int32)), (.int p5), (.int (3 : Int32)), (.ref b1), (.ref b1)])) _
    refine XS.iand X4.here hx rfl (hb hby at_46) rfl ?_
    show Steps p.tables e below (T4.setTop (mkF m 47 #[.val (.int p1), .val (.int p2), .val (.int p3), .val (.int p4), .val (.int p5), .val (.int p6), .val (.int nn), .unset, .unset, .unset] [(.int (p5 &&& (255 : Int32))), (.int (3 : Int32)), (.ref b1), (.ref b1)])) _
    refine XS.i2c X4.here hx rfl (hb hby at_47) rfl ?_
    show Steps p.tables e below (T4.setTop (mkF m 48 #[.val (.int p1), .val (.int p2), .val (.int p3), .val (.int p4), .val (.int p5), .val (.int p6), .val (.int nn), .unset, .unset, .unset] [(.int ((p5 &&& (255 : Int32)).toUInt32.toUInt16.toUInt32.toInt32)), (.int (3 : Int32)), (.ref b1), (.ref b1)])) _
    exact k
  rw [i2c_mask]
  obtain ⟨c3, hc3⟩ : ∃ z : Int32, z = (p5 &&& (255 : Int32)) := ⟨_, rfl⟩
  rw [← hc3]
  have bc3 : ¬ c3 < 0 ∧ ¬ (255 : Int32) < c3 := by rw [hc3]; exact own_b255 _
  have cc3 : nar .char c3 = c3 := by rw [hc3]; exact i2c_mask _
  obtain ⟨cl5, Ar5, q5, Sz5, Nn5, Hs5, Gt5⟩ := V4
  have hin5 : ¬ ((3 : Int32) < 0 ∨ cl5.slots.size ≤ ((3 : Int32)).toNatClampNeg) := inb_of Sz5 ⟨by decide, by decide⟩
  obtain ⟨T5, h5, X5, e5, W5, st5⟩ := stC X4 hx hZ e4 Ar5 (j := (3 : Int32)) hin5 (g := (mkF m 48 #[.val (.int p1), .val (.int p2), .val (.int p3), .val (.int p4), .val (.int p5), .val (.int p6), .val (.int nn), .unset, .unset, .unset] [(.int c3), (.int (3 : Int32)), (.ref b1), (.ref b1)])) rfl rfl (hb hby at_48)
  have V5 := Arv.set Ar5 q5 Sz5 Nn5 Hs5 Gt5 (fits_nar_char _) W5 3 rfl (Nat.le_of_ble_eq_true rfl)
  rw [cc3] at V5
  have V5 : Arv Z h5 b1 k1 .char (5 : Int32) [(.int c0), (.int c1), (.int c2), (.int c3), (.int (0 : Int32))] (.int (0 : Int32)) := V5
  replace G1 := G1.wr W5
  replace O := O.wr W5 g_b1
  replace hk := Nat.le_trans hk (Keep.of_wr W5).1
  replace KM := KM.wr W5 (Or.inr m_b1_1)
  replace N := Fr.snoc X5 N g_b1
  refine own_go (B := T5.setTop (mkF m 49 #[.val (.int p1), .val (.int p2), .val (.int p3), .val (.int p4), .val (.int p5), .val (.int p6), .val (.int nn), .unset, .unset, .unset] [(.ref b1)])) st5 ?_
  refine own_go (B := T5.setTop (mkF m 58 #[.val (.int p1), .val (.int p2), .val (.int p3), .val (.int p4), .val (.int p5), .val (.int p6), .val (.int nn), .unset, .unset, .unset] [(.int ((p6 &&& (255 : Int32)).toUInt32.toUInt16.toUInt32.toInt32)), (.int (4 : Int32)), (.ref b1), (.ref b1)])) (fun t k => ?_) ?_
  · show Steps p.tables e below (T5.setTop (mkF m 49 #[.val (.int p1), .val (.int p2), .val (.int p3), .val (.int p4), .val (.int p5), .val (.int p6), .val (.int nn), .unset, .unset, .unset] [(.ref b1)])) _
    refine XS.dup X5.here hx rfl (hb hby at_49) rfl rfl ?_
    show Steps p.tables e below (T5.setTop (mkF m 50 #[.val (.int p1), .val (.int p2), .val (.int p3), .val (.int p4), .val (.int p5), .val (.int p6), .val (.int nn), .unset, .unset, .unset] [(.ref b1), (.ref b1)])) _
    refine XS.iconst X5.here hx rfl (hb hby at_50) ?_
    show Steps p.tables e below (T5.setTop (mkF m 51 #[.val (.int p1), .val (.int p2), .val (.int p3), .val (.int p4), .val (.int p5), .val (.int p6), .val (.int nn), .unset, .unset, .unset] [(.int (4 : Int32)), (.ref b1), (.ref b1)])) _
    refine XS.iload X5.here hx rfl (hb hby at_51) rfl ?_
    show Steps p.tables e below (T5.setTop (mkF m 53 #[.val (.int p1), .val (.int p2), .val (.int p3), .val (.int p4), .val (.int p5), .val (.int p6), .val (.int nn), .unset, .unset, .unset] [(.int p6), (.int (4 : Int32)), (.ref b1), (.ref b1)])) _
    refine XS.sipush X5.here hx rfl (hb hby at_53) ?_
    show Steps p.tables e below (T5.setTop (mkF m 56 #[.val (.int p1), .val (.int p2), .val (.int p3), .val (.int p4), .val (.int p5), .val (.int p6), .val (.int nn), .unset, .unset, .unset] [(.int (255 : Int32)), (.int p6), (.int (4 : Int32)), (.ref b1), (.ref b1)])) _
    refine XS.iand X5.here hx rfl (hb hby at_56) rfl ?_
    show Steps p.tables e below (T5.setTop (mkF m 57 #[.val (.int p1), .val (.int p2), .val (.int p3), .val (.int p4), .val (.int p5), .val (.int p6), .val (.int nn), .unset, .unset, .unset] [(.int (p6 &&& (255 : Int32))), (.int (4 : Int32)), (.ref b1), (.ref b1)])) _
    refine XS.i2c X5.here hx rfl (hb hby at_57) rfl ?_
    show Steps p.tables e below (T5.setTop (mkF m 58 #[.val (.int p1), .val (.int p2), .val (.int p3), .val (.int p4), .val (.int p5), .val (.int p6), .val (.int nn), .unset, .unset, .unset] [(.int ((p6 &&& (255 : Int32)).toUInt32.toUInt16.toUInt32.toInt32)), (.int (4 : Int32)), (.ref b1), (.ref b1)])) _
    exact k
  rw [i2c_mask]
  obtain ⟨c4, hc4⟩ : ∃ z : Int32, z = (p6 &&& (255 : Int32)) := ⟨_, rfl⟩
  rw [← hc4]
  have bc4 : ¬ c4 < 0 ∧ ¬ (255 : Int32) < c4 := by rw [hc4]; exact own_b255 _
  have cc4 : nar .char c4 = c4 := by rw [hc4]; exact i2c_mask _
  obtain ⟨cl6, Ar6, q6, Sz6, Nn6, Hs6, Gt6⟩ := V5
  have hin6 : ¬ ((4 : Int32) < 0 ∨ cl6.slots.size ≤ ((4 : Int32)).toNatClampNeg) := inb_of Sz6 ⟨by decide, by decide⟩
  obtain ⟨T6, h6, X6, e6, W6, st6⟩ := stC X5 hx hZ e5 Ar6 (j := (4 : Int32)) hin6 (g := (mkF m 58 #[.val (.int p1), .val (.int p2), .val (.int p3), .val (.int p4), .val (.int p5), .val (.int p6), .val (.int nn), .unset, .unset, .unset] [(.int c4), (.int (4 : Int32)), (.ref b1), (.ref b1)])) rfl rfl (hb hby at_58)
  have V6 := Arv.set Ar6 q6 Sz6 Nn6 Hs6 Gt6 (fits_nar_char _) W6 4 rfl (Nat.le_of_ble_eq_true rfl)
  rw [cc4] at V6
  have V6 : Arv Z h6 b1 k1 .char (5 : Int32) [(.int c0), (.int c1), (.int c2), (.int c3), (.int c4)] (.int (0 : Int32)) := V6
  replace G1 := G1.wr W6
  replace O := O.wr W6 g_b1
  replace hk := Nat.le_trans hk (Keep.of_wr W6).1
  replace KM := KM.wr W6 (Or.inr m_b1_1)
  replace N := Fr.snoc X6 N g_b1
  refine own_go (B := T6.setTop (mkF m 59 #[.val (.int p1), .val (.int p2), .val (.int p3), .val (.int p4), .val (.int p5), .val (.int p6), .val (.int nn), .unset, .unset, .unset] [(.ref b1)])) st6 ?_
  refine own_go (B := T6.setTop (mkF m 65 #[.val (.int p1), .val (.int p2), .val (.int p3), .val (.int p4), .val (.int p5), .val (.int p6), .val (.int nn), .val (.ref b1), .unset, .unset] [(.int nn), (.ref b1)])) (fun t k => ?_) ?_
  · show Steps p.tables e below (T6.setTop (mkF m 59 #[.val (.int p1), .val (.int p2), .val (.int p3), .val (.int p4), .val (.int p5), .val (.int p6), .val (.int nn), .unset, .unset, .unset] [(.ref b1)])) _
    refine XS.astore X6.here hx rfl (hb hby at_59) rfl rfl (l' := #[.val (.int p1), .val (.int p2), .val (.int p3), .val (.int p4), .val (.int p5), .val (.int p6), .val (.int nn), .val (.ref b1), .unset, .unset]) rfl ?_
    show Steps p.tables e below (T6.setTop (mkF m 61 #[.val (.int p1), .val (.int p2), .val (.int p3), .val (.int p4), .val (.int p5), .val (.int p6), .val (.int nn), .val (.ref b1), .unset, .unset] [])) _
    refine XS.aload X6.here hx rfl (hb hby at_61) rfl rfl ?_
    show Steps p.tables e below (T6.setTop (mkF m 63 #[.val (.int p1), .val (.int p2), .val (.int p3), .val (.int p4), .val (.int p5), .val (.int p6), .val (.int nn), .val (.ref b1), .unset, .unset] [(.ref b1)])) _
    refine XS.iload X6.here hx rfl (hb hby at_63) rfl ?_
    show Steps p.tables e below (T6.setTop (mkF m 65 #[.val (.int p1), .val (.int p2), .val (.int p3), .val (.int p4), .val (.int p5), .val (.int p6), .val (.int nn), .val (.ref b1), .unset, .unset] [(.int nn), (.ref b1)])) _
    exact k
  -- pc 65: org/bindery/IriIsAbsolutePinLaw.take
  obtain ⟨_, _, ⟨T7, L7, k7, n7⟩, -, X7, hSq7, hgq7, ⟨Lc7, hQ7, l7, y7, z7⟩, st7⟩ := callSS X6 hx (y := (⟨"org/bindery/IriIsAbsolutePinLaw", "take", "([CI)Ljava/lang/String;"⟩ : MethodName)) hown (mvT hZ (hw _ (List.mem_of_getElem? (i := 2) rfl))) (mvT hZ (hw _ (List.mem_of_getElem? (i := 3) rfl))) (mvT hZ (hw _ (List.mem_of_getElem? (i := 4) rfl))) (mvT hZ (hw _ (List.mem_of_getElem? (i := 5) rfl))) (by decide) (own_backOfE (W := 0) (rmTake l Z a0 hw [] b1 k1 c0 c1 c2 c3 c4 nn zc h6 n0 O V6 S_C hcs hcH hcw bc0 bc1 bc2 bc3 bc4) hZ (hw _ (List.mem_of_getElem? (i := 5) rfl)) (hw _ (List.mem_of_getElem? (i := 4) rfl)) (by decide) (by decide)) (g := (mkF m 65 #[.val (.int p1), .val (.int p2), .val (.int p3), .val (.int p4), .val (.int p5), .val (.int p6), .val (.int nn), .val (.ref b1), .unset, .unset] [(.int nn), (.ref b1)])) rfl (by rw [hml]; rfl) (argsL := [(.ref b1), (.int nn)]) (rest := []) (lenOf pd_6 rfl) rfl (by show 2 * 0 + _ ≤ _; exact Nat.le_of_eq rfl) (hb hby at_65) (fun _ hWm => ⟨rfl, e6, (by decide : 1 + 4 ≤ _), (by decide : 5 + 14 ≤ _), Em.warm (M.keep KM) hWm⟩)
  dsimp only [Pt.U, Pt.locs, Pt.cells, Pt.slots] at X7 l7 y7 z7 st7 hQ7 hSq7 hgq7
  subst l7 y7 z7
  obtain ⟨X7, hS, hZ, hown⟩ := rebS hS (by rw [e6]; exact hk) X7 hSq7 hgq7 hZ hown
  obtain ⟨⟨r7, t7, k7, cs7, rfl, Nq7, Kq7, fq7_r, Gq7_0, Gq7_1, Gq7_2, Gq7_3, cq7_0, cq7_1, cq7_2⟩, M⟩ := hQ7
  replace N := Fr.app N Nq7
  have lt_b1_r7 : b1 < r7 := Nat.lt_of_lt_of_le G1.lt fq7_r
  have g_r7 : n0 ≤ r7 := Nat.le_trans (own_oldsz O) fq7_r
  have m_r7_7 : h0.size ≤ r7 := Nat.le_trans KM.1 fq7_r
  replace G1 := G1.keep Kq7
  replace V6 := V6.keep Kq7 nin0
  replace O := O.keep Kq7 all0
  have hk : T7.heap.size ≤ T7.heap.size := Nat.le_refl _
  have KM : Keep T7.heap T7.heap [] := Keep.refl _ _
  refine own_go (B := T7.setTop (mkF m 68 #[.val (.int p1), .val (.int p2), .val (.int p3), .val (.int p4), .val (.int p5), .val (.int p6), .val (.int nn), .val (.ref b1), .unset, .unset] [(.ref r7)])) (fun t k => st7.trans k) ?_
  refine own_go (B := T7.setTop (mkF m 70 #[.val (.int p1), .val (.int p2), .val (.int p3), .val (.int p4), .val (.int p5), .val (.int p6), .val (.int nn), .val (.ref b1), .val (.ref r7), .unset] [])) (fun t k => ?_) ?_
  · show Steps p.tables e below (T7.setTop (mkF m 68 #[.val (.int p1), .val (.int p2), .val (.int p3), .val (.int p4), .val (.int p5), .val (.int p6), .val (.int nn), .val (.ref b1), .unset, .unset] [(.ref r7)])) _
    refine XS.astore X7.here hx rfl (hb hby at_68) rfl rfl (l' := #[.val (.int p1), .val (.int p2), .val (.int p3), .val (.int p4), .val (.int p5), .val (.int p6), .val (.int nn), .val (.ref b1), .val (.ref r7), .unset]) rfl ?_
    show Steps p.tables e below (T7.setTop (mkF m 70 #[.val (.int p1), .val (.int p2), .val (.int p3), .val (.int p4), .val (.int p5), .val (.int p6), .val (.int nn), .val (.ref b1), .val (.ref r7), .unset] [])) _
    exact k
  suffices hseg8 : ∀ (T8 : State) (vm8 : Vm) (kk8 : Nat) (L8 : List Loc) (xp8 : Int32), Stand p l e room_1 (s.setVm vm8) m #[(.int p1), (.int p2), (.int p3), (.int p4), (.int p5), (.int p6)] below meth c T8 L8 5 19 → T8.heap = T7.heap → Fr n0 L8 → s.Since vm8 kk8 → kk8 ≤ T7.heap.size → Z.Warmed39 (s.setVm vm8).vm → (s.setVm vm8).vm.findClass "org/bindery/IriIsAbsolutePinLaw" = some m.cls → Em Z vm8 T7.heap → (own_exp nn c0 c1 c2 c3 c4 → xp8 = (1 : Int32)) → (¬ own_exp nn c0 c1 c2 c3 c4 → xp8 = (0 : Int32)) → ∃ s₂ o, Steps p.tables e below (T8.setTop (mkF m 165 #[.val (.int p1), .val (.int p2), .val (.int p3), .val (.int p4), .val (.int p5), .val (.int p6), .val (.int nn), .val (.ref b1), .val (.ref r7), .val (.int xp8)] [])) s₂ ∧ P s₂ o by
    refine own_go (B := T7.setTop (mkF m 75 #[.val (.int p1), .val (.int p2), .val (.int p3), .val (.int p4), .val (.int p5), .val (.int p6), .val (.int nn), .val (.ref b1), .val (.ref r7), .unset] [(.int (0 : Int32)), (.int nn), (.ref b1)])) (fun t k => ?_) ?_
    · show Steps p.tables e below (T7.setTop (mkF m 70 #[.val (.int p1), .val (.int p2), .val (.int p3), .val (.int p4), .val (.int p5), .val (.int p6), .val (.int nn), .val (.ref b1), .val (.ref r7), .unset] [])) _
      refine XS.aload X7.here hx rfl (hb hby at_70) rfl rfl ?_
      show Steps p.tables e below (T7.setTop (mkF m 72 #[.val (.int p1), .val (.int p2), .val (.int p3), .val (.int p4), .val (.int p5), .val (.int p6), .val (.int nn), .val (.ref b1), .val (.ref r7), .unset] [(.ref b1)])) _
      refine XS.iload X7.here hx rfl (hb hby at_72) rfl ?_
      show Steps p.tables e below (T7.setTop (mkF m 74 #[.val (.int p1), .val (.int p2), .val (.int p3), .val (.int p4), .val (.int p5), .val (.int p6), .val (.int nn), .val (.ref b1), .val (.ref r7), .unset] [(.int nn), (.ref b1)])) _
      refine XS.iconst X7.here hx rfl (hb hby at_74) ?_
      show Steps p.tables e below (T7.setTop (mkF m 75 #[.val (.int p1), .val (.int p2), .val (.int p3), .val (.int p4), .val (.int p5), .val (.int p6), .val (.int nn), .val (.ref b1), .val (.ref r7), .unset] [(.int (0 : Int32)), (.int nn), (.ref b1)])) _
      exact k
    -- pc 75: org/bindery/IriIsAbsolutePinLaw.letterAt
    obtain ⟨_, _, ⟨T9, L9, k9, n9⟩, -, X9, ⟨Lc9, hQ9, l9, y9, z9⟩, st9⟩ := Jvm.LawKit.callS X7 hx (y := (⟨"org/bindery/IriIsAbsolutePinLaw", "letterAt", "([CII)Z"⟩ : MethodName)) hown (mvT hZ (hw _ (List.mem_of_getElem? (i := 27) rfl))) (mvT hZ (hw _ (List.mem_of_getElem? (i := 28) rfl))) (mvT hZ (hw _ (List.mem_of_getElem? (i := 4) rfl))) (mvT hZ (hw _ (List.mem_of_getElem? (i := 29) rfl))) (by decide) (backOf (W := 0) (rmLa0 l Z a0 hw [] b1 k1 c0 c1 c2 c3 c4 nn T7.heap n0 O V6) hZ (hw _ (List.mem_of_getElem? (i := 29) rfl)) (hw _ (List.mem_of_getElem? (i := 4) rfl)) (by decide) (by decide)) (g := (mkF m 75 #[.val (.int p1), .val (.int p2), .val (.int p3), .val (.int p4), .val (.int p5), .val (.int p6), .val (.int nn), .val (.ref b1), .val (.ref r7), .unset] [(.int (0 : Int32)), (.int nn), (.ref b1)])) rfl (by rw [hml]; rfl) (argsL := [(.ref b1), (.int nn), (.int (0 : Int32))]) (rest := []) (lenOf pd_7 rfl) rfl (by show 2 * 0 + _ ≤ _; exact Nat.le_of_eq rfl) (hb hby at_75) (fun _ hWm => ⟨rfl, rfl, (by decide : 5 + 0 ≤ _), (by decide : 19 + 0 ≤ _)⟩)
    dsimp only [Pt.U, Pt.locs, Pt.cells, Pt.slots] at X9 l9 y9 z9 st9 hQ9
    subst l9 y9 z9
    obtain ⟨b9, rfl, Nq9, Kq9, cq9_0, cq9_1⟩ := hQ9
    replace N := Fr.app N Nq9
    refine own_go (B := T9.setTop (mkF m 78 #[.val (.int p1), .val (.int p2), .val (.int p3), .val (.int p4), .val (.int p5), .val (.int p6), .val (.int nn), .val (.ref b1), .val (.ref r7), .unset] [(.int b9)])) st9 ?_
    by_cases L0 : ((0 : Int32) < nn ∧ own_let c0)
    · refine own_go (B := T9.setTop (mkF m 86 #[.val (.int p1), .val (.int p2), .val (.int p3), .val (.int p4), .val (.int p5), .val (.int p6), .val (.int nn), .val (.ref b1), .val (.ref r7), .unset] [(.int (1 : Int32)), (.int nn), (.ref b1)])) (fun t k => ?_) ?_
      · show Steps p.tables e below (T9.setTop (mkF m 78 #[.val (.int p1), .val (.int p2), .val (.int p3), .val (.int p4), .val (.int p5), .val (.int p6), .val (.int nn), .val (.ref b1), .val (.ref r7), .unset] [(.int b9)])) _
        refine XS.ifNo X9.here hx rfl (hb hby at_78) rfl ((if0 _ _).trans (feq (by rw [cq9_0 L0]; decide)).1) ?_
        show Steps p.tables e below (T9.setTop (mkF m 81 #[.val (.int p1), .val (.int p2), .val (.int p3), .val (.int p4), .val (.int p5), .val (.int p6), .val (.int nn), .val (.ref b1), .val (.ref r7), .unset] [])) _
        refine XS.aload X9.here hx rfl (hb hby at_81) rfl rfl ?_
        show Steps p.tables e below (T9.setTop (mkF m 83 #[.val (.int p1), .val (.int p2), .val (.int p3), .val (.int p4), .val (.int p5), .val (.int p6), .val (.int nn), .val (.ref b1), .val (.ref r7), .unset] [(.ref b1)])) _
        refine XS.iload X9.here hx rfl (hb hby at_83) rfl ?_
        show Steps p.tables e below (T9.setTop (mkF m 85 #[.val (.int p1), .val (.int p2), .val (.int p3), .val (.int p4), .val (.int p5), .val (.int p6), .val (.int nn), .val (.ref b1), .val (.ref r7), .unset] [(.int nn), (.ref b1)])) _
        refine XS.iconst X9.here hx rfl (hb hby at_85) ?_
        show Steps p.tables e below (T9.setTop (mkF m 86 #[.val (.int p1), .val (.int p2), .val (.int p3), .val (.int p4), .val (.int p5), .val (.int p6), .val (.int nn), .val (.ref b1), .val (.ref r7), .unset] [(.int (1 : Int32)), (.int nn), (.ref b1)])) _
        exact k
      -- pc 86: org/bindery/IriIsAbsolutePinLaw.colonAt
      obtain ⟨_, _, ⟨T10, L10, k10, n10⟩, -, X10, ⟨Lc10, hQ10, l10, y10, z10⟩, st10⟩ := Jvm.LawKit.callS X9 hx (y := (⟨"org/bindery/IriIsAbsolutePinLaw", "colonAt", "([CII)Z"⟩ : MethodName)) hown (mvT hZ (hw _ (List.mem_of_getElem? (i := 83) rfl))) (mvT hZ (hw _ (List.mem_of_getElem? (i := 84) rfl))) (mvT hZ (hw _ (List.mem_of_getElem? (i := 4) rfl))) (mvT hZ (hw _ (List.mem_of_getElem? (i := 85) rfl))) (by decide) (backOf (W := 0) (rmCo1 l Z a0 hw [] b1 k1 c0 c1 c2 c3 c4 nn T7.heap n0 O V6) hZ (hw _ (List.mem_of_getElem? (i := 85) rfl)) (hw _ (List.mem_of_getElem? (i := 4) rfl)) (by decide) (by decide)) (g := (mkF m 86 #[.val (.int p1), .val (.int p2), .val (.int p3), .val (.int p4), .val (.int p5), .val (.int p6), .val (.int nn), .val (.ref b1), .val (.ref r7), .unset] [(.int (1 : Int32)), (.int nn), (.ref b1)])) rfl (by rw [hml]; rfl) (argsL := [(.ref b1), (.int nn), (.int (1 : Int32))]) (rest := []) (lenOf pd_7 rfl) rfl (by show 2 * 0 + _ ≤ _; exact Nat.le_of_eq rfl) (hb hby at_86) (fun _ hWm => ⟨rfl, Kq9, (by decide : 5 + 0 ≤ _), (by decide : 19 + 0 ≤ _)⟩)
      dsimp only [Pt.U, Pt.locs, Pt.cells, Pt.slots] at X10 l10 y10 z10 st10 hQ10
      subst l10 y10 z10
      obtain ⟨b10, rfl, Nq10, Kq10, cq10_0, cq10_1⟩ := hQ10
      replace N := Fr.app N Nq10
      refine own_go (B := T10.setTop (mkF m 89 #[.val (.int p1), .val (.int p2), .val (.int p3), .val (.int p4), .val (.int p5), .val (.int p6), .val (.int nn), .val (.ref b1), .val (.ref r7), .unset] [(.int b10)])) st10 ?_
      by_cases C1 : ((1 : Int32) < nn ∧ c1 = (58 : Int32))
      · refine own_go (B := T10.setTop (mkF m 165 #[.val (.int p1), .val (.int p2), .val (.int p3), .val (.int p4), .val (.int p5), .val (.int p6), .val (.int nn), .val (.ref b1), .val (.ref r7), .val (.int (1 : Int32))] [])) (fun t k => ?_) ?_
        · show Steps p.tables e below (T10.setTop (mkF m 89 #[.val (.int p1), .val (.int p2), .val (.int p3), .val (.int p4), .val (.int p5), .val (.int p6), .val (.int nn), .val (.ref b1), .val (.ref r7), .unset] [(.int b10)])) _
          refine XS.ifYes X10.here hx rfl (pc0 := 89) (pc' := 158) rfl (hb hby at_89) rfl ((if0 _ _).trans (feq (by rw [cq10_0 C1]; decide)).2) (by decide) (by decide) ?_
          show Steps p.tables e below (T10.setTop (mkF m 158 #[.val (.int p1), .val (.int p2), .val (.int p3), .val (.int p4), .val (.int p5), .val (.int p6), .val (.int nn), .val (.ref b1), .val (.ref r7), .unset] [])) _
          refine XS.iconst X10.here hx rfl (hb hby at_158) ?_
          show Steps p.tables e below (T10.setTop (mkF m 159 #[.val (.int p1), .val (.int p2), .val (.int p3), .val (.int p4), .val (.int p5), .val (.int p6), .val (.int nn), .val (.ref b1), .val (.ref r7), .unset] [(.int (1 : Int32))])) _
          refine XS.goto X10.here hx rfl (pc0 := 159) (pc' := 163) rfl (hb hby at_159) (by decide) (by decide) ?_
          show Steps p.tables e below (T10.setTop (mkF m 163 #[.val (.int p1), .val (.int p2), .val (.int p3), .val (.int p4), .val (.int p5), .val (.int p6), .val (.int nn), .val (.ref b1), .val (.ref r7), .unset] [(.int (1 : Int32))])) _
          refine XS.istore X10.here hx rfl (hb hby at_163) rfl (l' := #[.val (.int p1), .val (.int p2), .val (.int p3), .val (.int p4), .val (.int p5), .val (.int p6), .val (.int nn), .val (.ref b1), .val (.ref r7), .val (.int (1 : Int32))]) rfl ?_
          show Steps p.tables e below (T10.setTop (mkF m 165 #[.val (.int p1), .val (.int p2), .val (.int p3), .val (.int p4), .val (.int p5), .val (.int p6), .val (.int nn), .val (.ref b1), .val (.ref r7), .val (.int (1 : Int32))] [])) _
          exact k
        exact hseg8 T10 _ _ _ (1 : Int32) (X10.more (by decide) (by decide)) Kq10 N hS hk hZ hown M (fun _ => rfl) (fun qq_ => absurd (show _ from ⟨L0, (Or.inl C1)⟩) qq_)
      · refine own_go (B := T10.setTop (mkF m 97 #[.val (.int p1), .val (.int p2), .val (.int p3), .val (.int p4), .val (.int p5), .val (.int p6), .val (.int nn), .val (.ref b1), .val (.ref r7), .unset] [(.int (1 : Int32)), (.int nn), (.ref b1)])) (fun t k => ?_) ?_
        · show Steps p.tables e below (T10.setTop (mkF m 89 #[.val (.int p1), .val (.int p2), .val (.int p3), .val (.int p4), .val (.int p5), .val (.int p6), .val (.int nn), .val (.ref b1), .val (.ref r7), .unset] [(.int b10)])) _
          refine XS.ifNo X10.here hx rfl (hb hby at_89) rfl ((if0 _ _).trans (teq (cq10_1 C1)).2) ?_
          show Steps p.tables e below (T10.setTop (mkF m 92 #[.val (.int p1), .val (.int p2), .val (.int p3), .val (.int p4), .val (.int p5), .val (.int p6), .val (.int nn), .val (.ref b1), .val (.ref r7), .unset] [])) _
          refine XS.aload X10.here hx rfl (hb hby at_92) rfl rfl ?_
          show Steps p.tables e below (T10.setTop (mkF m 94 #[.val (.int p1), .val (.int p2), .val (.int p3), .val (.int p4), .val (.int p5), .val (.int p6), .val (.int nn), .val (.ref b1), .val (.ref r7), .unset] [(.ref b1)])) _
          refine XS.iload X10.here hx rfl (hb hby at_94) rfl ?_
          show Steps p.tables e below (T10.setTop (mkF m 96 #[.val (.int p1), .val (.int p2), .val (.int p3), .val (.int p4), .val (.int p5), .val (.int p6), .val (.int nn), .val (.ref b1), .val (.ref r7), .unset] [(.int nn), (.ref b1)])) _
          refine XS.iconst X10.here hx rfl (hb hby at_96) ?_
          show Steps p.tables e below (T10.setTop (mkF m 97 #[.val (.int p1), .val (.int p2), .val (.int p3), .val (.int p4), .val (.int p5), .val (.int p6), .val (.int nn), .val (.ref b1), .val (.ref r7), .unset] [(.int (1 : Int32)), (.int nn), (.ref b1)])) _
          exact k
        -- pc 97: org/bindery/IriIsAbsolutePinLaw.laterAt
        obtain ⟨_, _, ⟨T11, L11, k11, n11⟩, -, X11, ⟨Lc11, hQ11, l11, y11, z11⟩, st11⟩ := Jvm.LawKit.callS X10 hx (y := (⟨"org/bindery/IriIsAbsolutePinLaw", "laterAt", "([CII)Z"⟩ : MethodName)) hown (mvT hZ (hw _ (List.mem_of_getElem? (i := 86) rfl))) (mvT hZ (hw _ (List.mem_of_getElem? (i := 87) rfl))) (mvT hZ (hw _ (List.mem_of_getElem? (i := 4) rfl))) (mvT hZ (hw _ (List.mem_of_getElem? (i := 88) rfl))) (by decide) (backOf (W := 0) (rmLt1 l Z a0 hw [] b1 k1 c0 c1 c2 c3 c4 nn T7.heap n0 O V6) hZ (hw _ (List.mem_of_getElem? (i := 88) rfl)) (hw _ (List.mem_of_getElem? (i := 4) rfl)) (by decide) (by decide)) (g := (mkF m 97 #[.val (.int p1), .val (.int p2), .val (.int p3), .val (.int p4), .val (.int p5), .val (.int p6), .val (.int nn), .val (.ref b1), .val (.ref r7), .unset] [(.int (1 : Int32)), (.int nn), (.ref b1)])) rfl (by rw [hml]; rfl) (argsL := [(.ref b1), (.int nn), (.int (1 : Int32))]) (rest := []) (lenOf pd_7 rfl) rfl (by show 2 * 0 + _ ≤ _; exact Nat.le_of_eq rfl) (hb hby at_97) (fun _ hWm => ⟨rfl, Kq10, (by decide : 5 + 0 ≤ _), (by decide : 19 + 0 ≤ _)⟩)
        dsimp only [Pt.U, Pt.locs, Pt.cells, Pt.slots] at X11 l11 y11 z11 st11 hQ11
        subst l11 y11 z11
        obtain ⟨b11, rfl, Nq11, Kq11, cq11_0, cq11_1⟩ := hQ11
        replace N := Fr.app N Nq11
        refine own_go (B := T11.setTop (mkF m 100 #[.val (.int p1), .val (.int p2), .val (.int p3), .val (.int p4), .val (.int p5), .val (.int p6), .val (.int nn), .val (.ref b1), .val (.ref r7), .unset] [(.int b11)])) st11 ?_
        by_cases A1 : ((1 : Int32) < nn ∧ own_lat c1)
        · refine own_go (B := T11.setTop (mkF m 108 #[.val (.int p1), .val (.int p2), .val (.int p3), .val (.int p4), .val (.int p5), .val (.int p6), .val (.int nn), .val (.ref b1), .val (.ref r7), .unset] [(.int (2 : Int32)), (.int nn), (.ref b1)])) (fun t k => ?_) ?_
          · show Steps p.tables e below (T11.setTop (mkF m 100 #[.val (.int p1), .val (.int p2), .val (.int p3), .val (.int p4), .val (.int p5), .val (.int p6), .val (.int nn), .val (.ref b1), .val (.ref r7), .unset] [(.int b11)])) _
            refine XS.ifNo X11.here hx rfl (hb hby at_100) rfl ((if0 _ _).trans (feq (by rw [cq11_0 A1]; decide)).1) ?_
            show Steps p.tables e below (T11.setTop (mkF m 103 #[.val (.int p1), .val (.int p2), .val (.int p3), .val (.int p4), .val (.int p5), .val (.int p6), .val (.int nn), .val (.ref b1), .val (.ref r7), .unset] [])) _
            refine XS.aload X11.here hx rfl (hb hby at_103) rfl rfl ?_
            show Steps p.tables e below (T11.setTop (mkF m 105 #[.val (.int p1), .val (.int p2), .val (.int p3), .val (.int p4), .val (.int p5), .val (.int p6), .val (.int nn), .val (.ref b1), .val (.ref r7), .unset] [(.ref b1)])) _
            refine XS.iload X11.here hx rfl (hb hby at_105) rfl ?_
            show Steps p.tables e below (T11.setTop (mkF m 107 #[.val (.int p1), .val (.int p2), .val (.int p3), .val (.int p4), .val (.int p5), .val (.int p6), .val (.int nn), .val (.ref b1), .val (.ref r7), .unset] [(.int nn), (.ref b1)])) _
            refine XS.iconst X11.here hx rfl (hb hby at_107) ?_
            show Steps p.tables e below (T11.setTop (mkF m 108 #[.val (.int p1), .val (.int p2), .val (.int p3), .val (.int p4), .val (.int p5), .val (.int p6), .val (.int nn), .val (.ref b1), .val (.ref r7), .unset] [(.int (2 : Int32)), (.int nn), (.ref b1)])) _
            exact k
          -- pc 108: org/bindery/IriIsAbsolutePinLaw.colonAt
          obtain ⟨_, _, ⟨T12, L12, k12, n12⟩, -, X12, ⟨Lc12, hQ12, l12, y12, z12⟩, st12⟩ := Jvm.LawKit.callS X11 hx (y := (⟨"org/bindery/IriIsAbsolutePinLaw", "colonAt", "([CII)Z"⟩ : MethodName)) hown (mvT hZ (hw _ (List.mem_of_getElem? (i := 83) rfl))) (mvT hZ (hw _ (List.mem_of_getElem? (i := 84) rfl))) (mvT hZ (hw _ (List.mem_of_getElem? (i := 4) rfl))) (mvT hZ (hw _ (List.mem_of_getElem? (i := 85) rfl))) (by decide) (backOf (W := 0) (rmCo2 l Z a0 hw [] b1 k1 c0 c1 c2 c3 c4 nn T7.heap n0 O V6) hZ (hw _ (List.mem_of_getElem? (i := 85) rfl)) (hw _ (List.mem_of_getElem? (i := 4) rfl)) (by decide) (by decide)) (g := (mkF m 108 #[.val (.int p1), .val (.int p2), .val (.int p3), .val (.int p4), .val (.int p5), .val (.int p6), .val (.int nn), .val (.ref b1), .val (.ref r7), .unset] [(.int (2 : Int32)), (.int nn), (.ref b1)])) rfl (by rw [hml]; rfl) (argsL := [(.ref b1), (.int nn), (.int (2 : Int32))]) (rest := []) (lenOf pd_7 rfl) rfl (by show 2 * 0 + _ ≤ _; exact Nat.le_of_eq rfl) (hb hby at_108) (fun _ hWm => ⟨rfl, Kq11, (by decide : 5 + 0 ≤ _), (by decide : 19 + 0 ≤ _)⟩)
          dsimp only [Pt.U, Pt.locs, Pt.cells, Pt.slots] at X12 l12 y12 z12 st12 hQ12
          subst l12 y12 z12
          obtain ⟨b12, rfl, Nq12, Kq12, cq12_0, cq12_1⟩ := hQ12
          replace N := Fr.app N Nq12
          refine own_go (B := T12.setTop (mkF m 111 #[.val (.int p1), .val (.int p2), .val (.int p3), .val (.int p4), .val (.int p5), .val (.int p6), .val (.int nn), .val (.ref b1), .val (.ref r7), .unset] [(.int b12)])) st12 ?_
          by_cases C2 : ((2 : Int32) < nn ∧ c2 = (58 : Int32))
          · refine own_go (B := T12.setTop (mkF m 165 #[.val (.int p1), .val (.int p2), .val (.int p3), .val (.int p4), .val (.int p5), .val (.int p6), .val (.int nn), .val (.ref b1), .val (.ref r7), .val (.int (1 : Int32))] [])) (fun t k => ?_) ?_
            · show Steps p.tables e below (T12.setTop (mkF m 111 #[.val (.int p1), .val (.int p2), .val (.int p3), .val (.int p4), .val (.int p5), .val (.int p6), .val (.int nn), .val (.ref b1), .val (.ref r7), .unset] [(.int b12)])) _
              refine XS.ifYes X12.here hx rfl (pc0 := 111) (pc' := 158) rfl (hb hby at_111) rfl ((if0 _ _).trans (feq (by rw [cq12_0 C2]; decide)).2) (by decide) (by decide) ?_
              show Steps p.tables e below (T12.setTop (mkF m 158 #[.val (.int p1), .val (.int p2), .val (.int p3), .val (.int p4), .val (.int p5), .val (.int p6), .val (.int nn), .val (.ref b1), .val (.ref r7), .unset] [])) _
              refine XS.iconst X12.here hx rfl (hb hby at_158) ?_
              show Steps p.tables e below (T12.setTop (mkF m 159 #[.val (.int p1), .val (.int p2), .val (.int p3), .val (.int p4), .val (.int p5), .val (.int p6), .val (.int nn), .val (.ref b1), .val (.ref r7), .unset] [(.int (1 : Int32))])) _
              refine XS.goto X12.here hx rfl (pc0 := 159) (pc' := 163) rfl (hb hby at_159) (by decide) (by decide) ?_
              show Steps p.tables e below (T12.setTop (mkF m 163 #[.val (.int p1), .val (.int p2), .val (.int p3), .val (.int p4), .val (.int p5), .val (.int p6), .val (.int nn), .val (.ref b1), .val (.ref r7), .unset] [(.int (1 : Int32))])) _
              refine XS.istore X12.here hx rfl (hb hby at_163) rfl (l' := #[.val (.int p1), .val (.int p2), .val (.int p3), .val (.int p4), .val (.int p5), .val (.int p6), .val (.int nn), .val (.ref b1), .val (.ref r7), .val (.int (1 : Int32))]) rfl ?_
              show Steps p.tables e below (T12.setTop (mkF m 165 #[.val (.int p1), .val (.int p2), .val (.int p3), .val (.int p4), .val (.int p5), .val (.int p6), .val (.int nn), .val (.ref b1), .val (.ref r7), .val (.int (1 : Int32))] [])) _
              exact k
            exact hseg8 T12 _ _ _ (1 : Int32) (X12.more (by decide) (by decide)) Kq12 N hS hk hZ hown M (fun _ => rfl) (fun qq_ => absurd (show _ from ⟨L0, (Or.inr ⟨A1, (Or.inl C2)⟩)⟩) qq_)
          · refine own_go (B := T12.setTop (mkF m 119 #[.val (.int p1), .val (.int p2), .val (.int p3), .val (.int p4), .val (.int p5), .val (.int p6), .val (.int nn), .val (.ref b1), .val (.ref r7), .unset] [(.int (2 : Int32)), (.int nn), (.ref b1)])) (fun t k => ?_) ?_
            · show Steps p.tables e below (T12.setTop (mkF m 111 #[.val (.int p1), .val (.int p2), .val (.int p3), .val (.int p4), .val (.int p5), .val (.int p6), .val (.int nn), .val (.ref b1), .val (.ref r7), .unset] [(.int b12)])) _
              refine XS.ifNo X12.here hx rfl (hb hby at_111) rfl ((if0 _ _).trans (teq (cq12_1 C2)).2) ?_
              show Steps p.tables e below (T12.setTop (mkF m 114 #[.val (.int p1), .val (.int p2), .val (.int p3), .val (.int p4), .val (.int p5), .val (.int p6), .val (.int nn), .val (.ref b1), .val (.ref r7), .unset] [])) _
              refine XS.aload X12.here hx rfl (hb hby at_114) rfl rfl ?_
              show Steps p.tables e below (T12.setTop (mkF m 116 #[.val (.int p1), .val (.int p2), .val (.int p3), .val (.int p4), .val (.int p5), .val (.int p6), .val (.int nn), .val (.ref b1), .val (.ref r7), .unset] [(.ref b1)])) _
              refine XS.iload X12.here hx rfl (hb hby at_116) rfl ?_
              show Steps p.tables e below (T12.setTop (mkF m 118 #[.val (.int p1), .val (.int p2), .val (.int p3), .val (.int p4), .val (.int p5), .val (.int p6), .val (.int nn), .val (.ref b1), .val (.ref r7), .unset] [(.int nn), (.ref b1)])) _
              refine XS.iconst X12.here hx rfl (hb hby at_118) ?_
              show Steps p.tables e below (T12.setTop (mkF m 119 #[.val (.int p1), .val (.int p2), .val (.int p3), .val (.int p4), .val (.int p5), .val (.int p6), .val (.int nn), .val (.ref b1), .val (.ref r7), .unset] [(.int (2 : Int32)), (.int nn), (.ref b1)])) _
              exact k
            -- pc 119: org/bindery/IriIsAbsolutePinLaw.laterAt
            obtain ⟨_, _, ⟨T13, L13, k13, n13⟩, -, X13, ⟨Lc13, hQ13, l13, y13, z13⟩, st13⟩ := Jvm.LawKit.callS X12 hx (y := (⟨"org/bindery/IriIsAbsolutePinLaw", "laterAt", "([CII)Z"⟩ : MethodName)) hown (mvT hZ (hw _ (List.mem_of_getElem? (i := 86) rfl))) (mvT hZ (hw _ (List.mem_of_getElem? (i := 87) rfl))) (mvT hZ (hw _ (List.mem_of_getElem? (i := 4) rfl))) (mvT hZ (hw _ (List.mem_of_getElem? (i := 88) rfl))) (by decide) (backOf (W := 0) (rmLt2 l Z a0 hw [] b1 k1 c0 c1 c2 c3 c4 nn T7.heap n0 O V6) hZ (hw _ (List.mem_of_getElem? (i := 88) rfl)) (hw _ (List.mem_of_getElem? (i := 4) rfl)) (by decide) (by decide)) (g := (mkF m 119 #[.val (.int p1), .val (.int p2), .val (.int p3), .val (.int p4), .val (.int p5), .val (.int p6), .val (.int nn), .val (.ref b1), .val (.ref r7), .unset] [(.int (2 : Int32)), (.int nn), (.ref b1)])) rfl (by rw [hml]; rfl) (argsL := [(.ref b1), (.int nn), (.int (2 : Int32))]) (rest := []) (lenOf pd_7 rfl) rfl (by show 2 * 0 + _ ≤ _; exact Nat.le_of_eq rfl) (hb hby at_119) (fun _ hWm => ⟨rfl, Kq12, (by decide : 5 + 0 ≤ _), (by decide : 19 + 0 ≤ _)⟩)
            dsimp only [Pt.U, Pt.locs, Pt.cells, Pt.slots] at X13 l13 y13 z13 st13 hQ13
            subst l13 y13 z13
            obtain ⟨b13, rfl, Nq13, Kq13, cq13_0, cq13_1⟩ := hQ13
            replace N := Fr.app N Nq13
            refine own_go (B := T13.setTop (mkF m 122 #[.val (.int p1), .val (.int p2), .val (.int p3), .val (.int p4), .val (.int p5), .val (.int p6), .val (.int nn), .val (.ref b1), .val (.ref r7), .unset] [(.int b13)])) st13 ?_
            by_cases A2 : ((2 : Int32) < nn ∧ own_lat c2)
            · refine own_go (B := T13.setTop (mkF m 130 #[.val (.int p1), .val (.int p2), .val (.int p3), .val (.int p4), .val (.int p5), .val (.int p6), .val (.int nn), .val (.ref b1), .val (.ref r7), .unset] [(.int (3 : Int32)), (.int nn), (.ref b1)])) (fun t k => ?_) ?_
              · show Steps p.tables e below (T13.setTop (mkF m 122 #[.val (.int p1), .val (.int p2), .val (.int p3), .val (.int p4), .val (.int p5), .val (.int p6), .val (.int nn), .val (.ref b1), .val (.ref r7), .unset] [(.int b13)])) _
                refine XS.ifNo X13.here hx rfl (hb hby at_122) rfl ((if0 _ _).trans (feq (by rw [cq13_0 A2]; decide)).1) ?_
                show Steps p.tables e below (T13.setTop (mkF m 125 #[.val (.int p1), .val (.int p2), .val (.int p3), .val (.int p4), .val (.int p5), .val (.int p6), .val (.int nn), .val (.ref b1), .val (.ref r7), .unset] [])) _
                refine XS.aload X13.here hx rfl (hb hby at_125) rfl rfl ?_
                show Steps p.tables e below (T13.setTop (mkF m 127 #[.val (.int p1), .val (.int p2), .val (.int p3), .val (.int p4), .val (.int p5), .val (.int p6), .val (.int nn), .val (.ref b1), .val (.ref r7), .unset] [(.ref b1)])) _
                refine XS.iload X13.here hx rfl (hb hby at_127) rfl ?_
                show Steps p.tables e below (T13.setTop (mkF m 129 #[.val (.int p1), .val (.int p2), .val (.int p3), .val (.int p4), .val (.int p5), .val (.int p6), .val (.int nn), .val (.ref b1), .val (.ref r7), .unset] [(.int nn), (.ref b1)])) _
                refine XS.iconst X13.here hx rfl (hb hby at_129) ?_
                show Steps p.tables e below (T13.setTop (mkF m 130 #[.val (.int p1), .val (.int p2), .val (.int p3), .val (.int p4), .val (.int p5), .val (.int p6), .val (.int nn), .val (.ref b1), .val (.ref r7), .unset] [(.int (3 : Int32)), (.int nn), (.ref b1)])) _
                exact k
              -- pc 130: org/bindery/IriIsAbsolutePinLaw.colonAt
              obtain ⟨_, _, ⟨T14, L14, k14, n14⟩, -, X14, ⟨Lc14, hQ14, l14, y14, z14⟩, st14⟩ := Jvm.LawKit.callS X13 hx (y := (⟨"org/bindery/IriIsAbsolutePinLaw", "colonAt", "([CII)Z"⟩ : MethodName)) hown (mvT hZ (hw _ (List.mem_of_getElem? (i := 83) rfl))) (mvT hZ (hw _ (List.mem_of_getElem? (i := 84) rfl))) (mvT hZ (hw _ (List.mem_of_getElem? (i := 4) rfl))) (mvT hZ (hw _ (List.mem_of_getElem? (i := 85) rfl))) (by decide) (backOf (W := 0) (rmCo3 l Z a0 hw [] b1 k1 c0 c1 c2 c3 c4 nn T7.heap n0 O V6) hZ (hw _ (List.mem_of_getElem? (i := 85) rfl)) (hw _ (List.mem_of_getElem? (i := 4) rfl)) (by decide) (by decide)) (g := (mkF m 130 #[.val (.int p1), .val (.int p2), .val (.int p3), .val (.int p4), .val (.int p5), .val (.int p6), .val (.int nn), .val (.ref b1), .val (.ref r7), .unset] [(.int (3 : Int32)), (.int nn), (.ref b1)])) rfl (by rw [hml]; rfl) (argsL := [(.ref b1), (.int nn), (.int (3 : Int32))]) (rest := []) (lenOf pd_7 rfl) rfl (by show 2 * 0 + _ ≤ _; exact Nat.le_of_eq rfl) (hb hby at_130) (fun _ hWm => ⟨rfl, Kq13, (by decide : 5 + 0 ≤ _), (by decide : 19 + 0 ≤ _)⟩)
              dsimp only [Pt.U, Pt.locs, Pt.cells, Pt.slots] at X14 l14 y14 z14 st14 hQ14
              subst l14 y14 z14
              obtain ⟨b14, rfl, Nq14, Kq14, cq14_0, cq14_1⟩ := hQ14
              replace N := Fr.app N Nq14
              refine own_go (B := T14.setTop (mkF m 133 #[.val (.int p1), .val (.int p2), .val (.int p3), .val (.int p4), .val (.int p5), .val (.int p6), .val (.int nn), .val (.ref b1), .val (.ref r7), .unset] [(.int b14)])) st14 ?_
              by_cases C3 : ((3 : Int32) < nn ∧ c3 = (58 : Int32))
              · refine own_go (B := T14.setTop (mkF m 165 #[.val (.int p1), .val (.int p2), .val (.int p3), .val (.int p4), .val (.int p5), .val (.int p6), .val (.int nn), .val (.ref b1), .val (.ref r7), .val (.int (1 : Int32))] [])) (fun t k => ?_) ?_
                · show Steps p.tables e below (T14.setTop (mkF m 133 #[.val (.int p1), .val (.int p2), .val (.int p3), .val (.int p4), .val (.int p5), .val (.int p6), .val (.int nn), .val (.ref b1), .val (.ref r7), .unset] [(.int b14)])) _
                  refine XS.ifYes X14.here hx rfl (pc0 := 133) (pc' := 158) rfl (hb hby at_133) rfl ((if0 _ _).trans (feq (by rw [cq14_0 C3]; decide)).2) (by decide) (by decide) ?_
                  show Steps p.tables e below (T14.setTop (mkF m 158 #[.val (.int p1), .val (.int p2), .val (.int p3), .val (.int p4), .val (.int p5), .val (.int p6), .val (.int nn), .val (.ref b1), .val (.ref r7), .unset] [])) _
                  refine XS.iconst X14.here hx rfl (hb hby at_158) ?_
                  show Steps p.tables e below (T14.setTop (mkF m 159 #[.val (.int p1), .val (.int p2), .val (.int p3), .val (.int p4), .val (.int p5), .val (.int p6), .val (.int nn), .val (.ref b1), .val (.ref r7), .unset] [(.int (1 : Int32))])) _
                  refine XS.goto X14.here hx rfl (pc0 := 159) (pc' := 163) rfl (hb hby at_159) (by decide) (by decide) ?_
                  show Steps p.tables e below (T14.setTop (mkF m 163 #[.val (.int p1), .val (.int p2), .val (.int p3), .val (.int p4), .val (.int p5), .val (.int p6), .val (.int nn), .val (.ref b1), .val (.ref r7), .unset] [(.int (1 : Int32))])) _
                  refine XS.istore X14.here hx rfl (hb hby at_163) rfl (l' := #[.val (.int p1), .val (.int p2), .val (.int p3), .val (.int p4), .val (.int p5), .val (.int p6), .val (.int nn), .val (.ref b1), .val (.ref r7), .val (.int (1 : Int32))]) rfl ?_
                  show Steps p.tables e below (T14.setTop (mkF m 165 #[.val (.int p1), .val (.int p2), .val (.int p3), .val (.int p4), .val (.int p5), .val (.int p6), .val (.int nn), .val (.ref b1), .val (.ref r7), .val (.int (1 : Int32))] [])) _
                  exact k
                exact hseg8 T14 _ _ _ (1 : Int32) (X14.more (by decide) (by decide)) Kq14 N hS hk hZ hown M (fun _ => rfl) (fun qq_ => absurd (show _ from ⟨L0, (Or.inr ⟨A1, (Or.inr ⟨A2, (Or.inl C3)⟩)⟩)⟩) qq_)
              · refine own_go (B := T14.setTop (mkF m 141 #[.val (.int p1), .val (.int p2), .val (.int p3), .val (.int p4), .val (.int p5), .val (.int p6), .val (.int nn), .val (.ref b1), .val (.ref r7), .unset] [(.int (3 : Int32)), (.int nn), (.ref b1)])) (fun t k => ?_) ?_
                · show Steps p.tables e below (T14.setTop (mkF m 133 #[.val (.int p1), .val (.int p2), .val (.int p3), .val (.int p4), .val (.int p5), .val (.int p6), .val (.int nn), .val (.ref b1), .val (.ref r7), .unset] [(.int b14)])) _
                  refine XS.ifNo X14.here hx rfl (hb hby at_133) rfl ((if0 _ _).trans (teq (cq14_1 C3)).2) ?_
                  show Steps p.tables e below (T14.setTop (mkF m 136 #[.val (.int p1), .val (.int p2), .val (.int p3), .val (.int p4), .val (.int p5), .val (.int p6), .val (.int nn), .val (.ref b1), .val (.ref r7), .unset] [])) _
                  refine XS.aload X14.here hx rfl (hb hby at_136) rfl rfl ?_
                  show Steps p.tables e below (T14.setTop (mkF m 138 #[.val (.int p1), .val (.int p2), .val (.int p3), .val (.int p4), .val (.int p5), .val (.int p6), .val (.int nn), .val (.ref b1), .val (.ref r7), .unset] [(.ref b1)])) _
                  refine XS.iload X14.here hx rfl (hb hby at_138) rfl ?_
                  show Steps p.tables e below (T14.setTop (mkF m 140 #[.val (.int p1), .val (.int p2), .val (.int p3), .val (.int p4), .val (.int p5), .val (.int p6), .val (.int nn), .val (.ref b1), .val (.ref r7), .unset] [(.int nn), (.ref b1)])) _
                  refine XS.iconst X14.here hx rfl (hb hby at_140) ?_
                  show Steps p.tables e below (T14.setTop (mkF m 141 #[.val (.int p1), .val (.int p2), .val (.int p3), .val (.int p4), .val (.int p5), .val (.int p6), .val (.int nn), .val (.ref b1), .val (.ref r7), .unset] [(.int (3 : Int32)), (.int nn), (.ref b1)])) _
                  exact k
                -- pc 141: org/bindery/IriIsAbsolutePinLaw.laterAt
                obtain ⟨_, _, ⟨T15, L15, k15, n15⟩, -, X15, ⟨Lc15, hQ15, l15, y15, z15⟩, st15⟩ := Jvm.LawKit.callS X14 hx (y := (⟨"org/bindery/IriIsAbsolutePinLaw", "laterAt", "([CII)Z"⟩ : MethodName)) hown (mvT hZ (hw _ (List.mem_of_getElem? (i := 86) rfl))) (mvT hZ (hw _ (List.mem_of_getElem? (i := 87) rfl))) (mvT hZ (hw _ (List.mem_of_getElem? (i := 4) rfl))) (mvT hZ (hw _ (List.mem_of_getElem? (i := 88) rfl))) (by decide) (backOf (W := 0) (rmLt3 l Z a0 hw [] b1 k1 c0 c1 c2 c3 c4 nn T7.heap n0 O V6) hZ (hw _ (List.mem_of_getElem? (i := 88) rfl)) (hw _ (List.mem_of_getElem? (i := 4) rfl)) (by decide) (by decide)) (g := (mkF m 141 #[.val (.int p1), .val (.int p2), .val (.int p3), .val (.int p4), .val (.int p5), .val (.int p6), .val (.int nn), .val (.ref b1), .val (.ref r7), .unset] [(.int (3 : Int32)), (.int nn), (.ref b1)])) rfl (by rw [hml]; rfl) (argsL := [(.ref b1), (.int nn), (.int (3 : Int32))]) (rest := []) (lenOf pd_7 rfl) rfl (by show 2 * 0 + _ ≤ _; exact Nat.le_of_eq rfl) (hb hby at_141) (fun _ hWm => ⟨rfl, Kq14, (by decide : 5 + 0 ≤ _), (by decide : 19 + 0 ≤ _)⟩)
                dsimp only [Pt.U, Pt.locs, Pt.cells, Pt.slots] at X15 l15 y15 z15 st15 hQ15
                subst l15 y15 z15
                obtain ⟨b15, rfl, Nq15, Kq15, cq15_0, cq15_1⟩ := hQ15
                replace N := Fr.app N Nq15
                refine own_go (B := T15.setTop (mkF m 144 #[.val (.int p1), .val (.int p2), .val (.int p3), .val (.int p4), .val (.int p5), .val (.int p6), .val (.int nn), .val (.ref b1), .val (.ref r7), .unset] [(.int b15)])) st15 ?_
                by_cases A3 : ((3 : Int32) < nn ∧ own_lat c3)
                · refine own_go (B := T15.setTop (mkF m 152 #[.val (.int p1), .val (.int p2), .val (.int p3), .val (.int p4), .val (.int p5), .val (.int p6), .val (.int nn), .val (.ref b1), .val (.ref r7), .unset] [(.int (4 : Int32)), (.int nn), (.ref b1)])) (fun t k => ?_) ?_
                  · show Steps p.tables e below (T15.setTop (mkF m 144 #[.val (.int p1), .val (.int p2), .val (.int p3), .val (.int p4), .val (.int p5), .val (.int p6), .val (.int nn), .val (.ref b1), .val (.ref r7), .unset] [(.int b15)])) _
                    refine XS.ifNo X15.here hx rfl (hb hby at_144) rfl ((if0 _ _).trans (feq (by rw [cq15_0 A3]; decide)).1) ?_
                    show Steps p.tables e below (T15.setTop (mkF m 147 #[.val (.int p1), .val (.int p2), .val (.int p3), .val (.int p4), .val (.int p5), .val (.int p6), .val (.int nn), .val (.ref b1), .val (.ref r7), .unset] [])) _
                    refine XS.aload X15.here hx rfl (hb hby at_147) rfl rfl ?_
                    show Steps p.tables e below (T15.setTop (mkF m 149 #[.val (.int p1), .val (.int p2), .val (.int p3), .val (.int p4), .val (.int p5), .val (.int p6), .val (.int nn), .val (.ref b1), .val (.ref r7), .unset] [(.ref b1)])) _
                    refine XS.iload X15.here hx rfl (hb hby at_149) rfl ?_
                    show Steps p.tables e below (T15.setTop (mkF m 151 #[.val (.int p1), .val (.int p2), .val (.int p3), .val (.int p4), .val (.int p5), .val (.int p6), .val (.int nn), .val (.ref b1), .val (.ref r7), .unset] [(.int nn), (.ref b1)])) _
                    refine XS.iconst X15.here hx rfl (hb hby at_151) ?_
                    show Steps p.tables e below (T15.setTop (mkF m 152 #[.val (.int p1), .val (.int p2), .val (.int p3), .val (.int p4), .val (.int p5), .val (.int p6), .val (.int nn), .val (.ref b1), .val (.ref r7), .unset] [(.int (4 : Int32)), (.int nn), (.ref b1)])) _
                    exact k
                  -- pc 152: org/bindery/IriIsAbsolutePinLaw.colonAt
                  obtain ⟨_, _, ⟨T16, L16, k16, n16⟩, -, X16, ⟨Lc16, hQ16, l16, y16, z16⟩, st16⟩ := Jvm.LawKit.callS X15 hx (y := (⟨"org/bindery/IriIsAbsolutePinLaw", "colonAt", "([CII)Z"⟩ : MethodName)) hown (mvT hZ (hw _ (List.mem_of_getElem? (i := 83) rfl))) (mvT hZ (hw _ (List.mem_of_getElem? (i := 84) rfl))) (mvT hZ (hw _ (List.mem_of_getElem? (i := 4) rfl))) (mvT hZ (hw _ (List.mem_of_getElem? (i := 85) rfl))) (by decide) (backOf (W := 0) (rmCo4 l Z a0 hw [] b1 k1 c0 c1 c2 c3 c4 nn T7.heap n0 O V6) hZ (hw _ (List.mem_of_getElem? (i := 85) rfl)) (hw _ (List.mem_of_getElem? (i := 4) rfl)) (by decide) (by decide)) (g := (mkF m 152 #[.val (.int p1), .val (.int p2), .val (.int p3), .val (.int p4), .val (.int p5), .val (.int p6), .val (.int nn), .val (.ref b1), .val (.ref r7), .unset] [(.int (4 : Int32)), (.int nn), (.ref b1)])) rfl (by rw [hml]; rfl) (argsL := [(.ref b1), (.int nn), (.int (4 : Int32))]) (rest := []) (lenOf pd_7 rfl) rfl (by show 2 * 0 + _ ≤ _; exact Nat.le_of_eq rfl) (hb hby at_152) (fun _ hWm => ⟨rfl, Kq15, (by decide : 5 + 0 ≤ _), (by decide : 19 + 0 ≤ _)⟩)
                  dsimp only [Pt.U, Pt.locs, Pt.cells, Pt.slots] at X16 l16 y16 z16 st16 hQ16
                  subst l16 y16 z16
                  obtain ⟨b16, rfl, Nq16, Kq16, cq16_0, cq16_1⟩ := hQ16
                  replace N := Fr.app N Nq16
                  refine own_go (B := T16.setTop (mkF m 155 #[.val (.int p1), .val (.int p2), .val (.int p3), .val (.int p4), .val (.int p5), .val (.int p6), .val (.int nn), .val (.ref b1), .val (.ref r7), .unset] [(.int b16)])) st16 ?_
                  by_cases C4 : ((4 : Int32) < nn ∧ c4 = (58 : Int32))
                  · refine own_go (B := T16.setTop (mkF m 165 #[.val (.int p1), .val (.int p2), .val (.int p3), .val (.int p4), .val (.int p5), .val (.int p6), .val (.int nn), .val (.ref b1), .val (.ref r7), .val (.int (1 : Int32))] [])) (fun t k => ?_) ?_
                    · show Steps p.tables e below (T16.setTop (mkF m 155 #[.val (.int p1), .val (.int p2), .val (.int p3), .val (.int p4), .val (.int p5), .val (.int p6), .val (.int nn), .val (.ref b1), .val (.ref r7), .unset] [(.int b16)])) _
                      refine XS.ifNo X16.here hx rfl (hb hby at_155) rfl ((if0 _ _).trans (feq (by rw [cq16_0 C4]; decide)).1) ?_
                      show Steps p.tables e below (T16.setTop (mkF m 158 #[.val (.int p1), .val (.int p2), .val (.int p3), .val (.int p4), .val (.int p5), .val (.int p6), .val (.int nn), .val (.ref b1), .val (.ref r7), .unset] [])) _
                      refine XS.iconst X16.here hx rfl (hb hby at_158) ?_
                      show Steps p.tables e below (T16.setTop (mkF m 159 #[.val (.int p1), .val (.int p2), .val (.int p3), .val (.int p4), .val (.int p5), .val (.int p6), .val (.int nn), .val (.ref b1), .val (.ref r7), .unset] [(.int (1 : Int32))])) _
                      refine XS.goto X16.here hx rfl (pc0 := 159) (pc' := 163) rfl (hb hby at_159) (by decide) (by decide) ?_
                      show Steps p.tables e below (T16.setTop (mkF m 163 #[.val (.int p1), .val (.int p2), .val (.int p3), .val (.int p4), .val (.int p5), .val (.int p6), .val (.int nn), .val (.ref b1), .val (.ref r7), .unset] [(.int (1 : Int32))])) _
                      refine XS.istore X16.here hx rfl (hb hby at_163) rfl (l' := #[.val (.int p1), .val (.int p2), .val (.int p3), .val (.int p4), .val (.int p5), .val (.int p6), .val (.int nn), .val (.ref b1), .val (.ref r7), .val (.int (1 : Int32))]) rfl ?_
                      show Steps p.tables e below (T16.setTop (mkF m 165 #[.val (.int p1), .val (.int p2), .val (.int p3), .val (.int p4), .val (.int p5), .val (.int p6), .val (.int nn), .val (.ref b1), .val (.ref r7), .val (.int (1 : Int32))] [])) _
                      exact k
                    exact hseg8 T16 _ _ _ (1 : Int32) (X16.more (by decide) (by decide)) Kq16 N hS hk hZ hown M (fun _ => rfl) (fun qq_ => absurd (show _ from ⟨L0, (Or.inr ⟨A1, (Or.inr ⟨A2, (Or.inr ⟨A3, C4⟩)⟩)⟩)⟩) qq_)
                  · refine own_go (B := T16.setTop (mkF m 165 #[.val (.int p1), .val (.int p2), .val (.int p3), .val (.int p4), .val (.int p5), .val (.int p6), .val (.int nn), .val (.ref b1), .val (.ref r7), .val (.int (0 : Int32))] [])) (fun t k => ?_) ?_
                    · show Steps p.tables e below (T16.setTop (mkF m 155 #[.val (.int p1), .val (.int p2), .val (.int p3), .val (.int p4), .val (.int p5), .val (.int p6), .val (.int nn), .val (.ref b1), .val (.ref r7), .unset] [(.int b16)])) _
                      refine XS.ifYes X16.here hx rfl (pc0 := 155) (pc' := 162) rfl (hb hby at_155) rfl ((if0 _ _).trans (teq (cq16_1 C4)).1) (by decide) (by decide) ?_
                      show Steps p.tables e below (T16.setTop (mkF m 162 #[.val (.int p1), .val (.int p2), .val (.int p3), .val (.int p4), .val (.int p5), .val (.int p6), .val (.int nn), .val (.ref b1), .val (.ref r7), .unset] [])) _
                      refine XS.iconst X16.here hx rfl (hb hby at_162) ?_
                      show Steps p.tables e below (T16.setTop (mkF m 163 #[.val (.int p1), .val (.int p2), .val (.int p3), .val (.int p4), .val (.int p5), .val (.int p6), .val (.int nn), .val (.ref b1), .val (.ref r7), .unset] [(.int (0 : Int32))])) _
                      refine XS.istore X16.here hx rfl (hb hby at_163) rfl (l' := #[.val (.int p1), .val (.int p2), .val (.int p3), .val (.int p4), .val (.int p5), .val (.int p6), .val (.int nn), .val (.ref b1), .val (.ref r7), .val (.int (0 : Int32))]) rfl ?_
                      show Steps p.tables e below (T16.setTop (mkF m 165 #[.val (.int p1), .val (.int p2), .val (.int p3), .val (.int p4), .val (.int p5), .val (.int p6), .val (.int nn), .val (.ref b1), .val (.ref r7), .val (.int (0 : Int32))] [])) _
                      exact k
                    exact hseg8 T16 _ _ _ (0 : Int32) (X16.more (by decide) (by decide)) Kq16 N hS hk hZ hown M (fun qq_ => absurd qq_ (fun z0 => (fun z1 => z1.elim C1 (fun z2 => (fun z3 => z3.elim C2 (fun z4 => (fun z5 => z5.elim C3 (fun z6 => C4 z6.2)) z4.2)) z2.2)) z0.2)) (fun _ => rfl)
                · refine own_go (B := T15.setTop (mkF m 165 #[.val (.int p1), .val (.int p2), .val (.int p3), .val (.int p4), .val (.int p5), .val (.int p6), .val (.int nn), .val (.ref b1), .val (.ref r7), .val (.int (0 : Int32))] [])) (fun t k => ?_) ?_
                  · show Steps p.tables e below (T15.setTop (mkF m 144 #[.val (.int p1), .val (.int p2), .val (.int p3), .val (.int p4), .val (.int p5), .val (.int p6), .val (.int nn), .val (.ref b1), .val (.ref r7), .unset] [(.int b15)])) _
                    refine XS.ifYes X15.here hx rfl (pc0 := 144) (pc' := 162) rfl (hb hby at_144) rfl ((if0 _ _).trans (teq (cq15_1 A3)).1) (by decide) (by decide) ?_
                    show Steps p.tables e below (T15.setTop (mkF m 162 #[.val (.int p1), .val (.int p2), .val (.int p3), .val (.int p4), .val (.int p5), .val (.int p6), .val (.int nn), .val (.ref b1), .val (.ref r7), .unset] [])) _
                    refine XS.iconst X15.here hx rfl (hb hby at_162) ?_
                    show Steps p.tables e below (T15.setTop (mkF m 163 #[.val (.int p1), .val (.int p2), .val (.int p3), .val (.int p4), .val (.int p5), .val (.int p6), .val (.int nn), .val (.ref b1), .val (.ref r7), .unset] [(.int (0 : Int32))])) _
                    refine XS.istore X15.here hx rfl (hb hby at_163) rfl (l' := #[.val (.int p1), .val (.int p2), .val (.int p3), .val (.int p4), .val (.int p5), .val (.int p6), .val (.int nn), .val (.ref b1), .val (.ref r7), .val (.int (0 : Int32))]) rfl ?_
                    show Steps p.tables e below (T15.setTop (mkF m 165 #[.val (.int p1), .val (.int p2), .val (.int p3), .val (.int p4), .val (.int p5), .val (.int p6), .val (.int nn), .val (.ref b1), .val (.ref r7), .val (.int (0 : Int32))] [])) _
                    exact k
                  exact hseg8 T15 _ _ _ (0 : Int32) (X15.more (by decide) (by decide)) Kq15 N hS hk hZ hown M (fun qq_ => absurd qq_ (fun z0 => (fun z1 => z1.elim C1 (fun z2 => (fun z3 => z3.elim C2 (fun z4 => (fun z5 => z5.elim C3 (fun z6 => A3 z6.1)) z4.2)) z2.2)) z0.2)) (fun _ => rfl)
            · refine own_go (B := T13.setTop (mkF m 165 #[.val (.int p1), .val (.int p2), .val (.int p3), .val (.int p4), .val (.int p5), .val (.int p6), .val (.int nn), .val (.ref b1), .val (.ref r7), .val (.int (0 : Int32))] [])) (fun t k => ?_) ?_
              · show Steps p.tables e below (T13.setTop (mkF m 122 #[.val (.int p1), .val (.int p2), .val (.int p3), .val (.int p4), .val (.int p5), .val (.int p6), .val (.int nn), .val (.ref b1), .val (.ref r7), .unset] [(.int b13)])) _
                refine XS.ifYes X13.here hx rfl (pc0 := 122) (pc' := 162) rfl (hb hby at_122) rfl ((if0 _ _).trans (teq (cq13_1 A2)).1) (by decide) (by decide) ?_
                show Steps p.tables e below (T13.setTop (mkF m 162 #[.val (.int p1), .val (.int p2), .val (.int p3), .val (.int p4), .val (.int p5), .val (.int p6), .val (.int nn), .val (.ref b1), .val (.ref r7), .unset] [])) _
                refine XS.iconst X13.here hx rfl (hb hby at_162) ?_
                show Steps p.tables e below (T13.setTop (mkF m 163 #[.val (.int p1), .val (.int p2), .val (.int p3), .val (.int p4), .val (.int p5), .val (.int p6), .val (.int nn), .val (.ref b1), .val (.ref r7), .unset] [(.int (0 : Int32))])) _
                refine XS.istore X13.here hx rfl (hb hby at_163) rfl (l' := #[.val (.int p1), .val (.int p2), .val (.int p3), .val (.int p4), .val (.int p5), .val (.int p6), .val (.int nn), .val (.ref b1), .val (.ref r7), .val (.int (0 : Int32))]) rfl ?_
                show Steps p.tables e below (T13.setTop (mkF m 165 #[.val (.int p1), .val (.int p2), .val (.int p3), .val (.int p4), .val (.int p5), .val (.int p6), .val (.int nn), .val (.ref b1), .val (.ref r7), .val (.int (0 : Int32))] [])) _
                exact k
              exact hseg8 T13 _ _ _ (0 : Int32) (X13.more (by decide) (by decide)) Kq13 N hS hk hZ hown M (fun qq_ => absurd qq_ (fun z0 => (fun z1 => z1.elim C1 (fun z2 => (fun z3 => z3.elim C2 (fun z4 => A2 z4.1)) z2.2)) z0.2)) (fun _ => rfl)
        · refine own_go (B := T11.setTop (mkF m 165 #[.val (.int p1), .val (.int p2), .val (.int p3), .val (.int p4), .val (.int p5), .val (.int p6), .val (.int nn), .val (.ref b1), .val (.ref r7), .val (.int (0 : Int32))] [])) (fun t k => ?_) ?_
          · show Steps p.tables e below (T11.setTop (mkF m 100 #[.val (.int p1), .val (.int p2), .val (.int p3), .val (.int p4), .val (.int p5), .val (.int p6), .val (.int nn), .val (.ref b1), .val (.ref r7), .unset] [(.int b11)])) _
            refine XS.ifYes X11.here hx rfl (pc0 := 100) (pc' := 162) rfl (hb hby at_100) rfl ((if0 _ _).trans (teq (cq11_1 A1)).1) (by decide) (by decide) ?_
            show Steps p.tables e below (T11.setTop (mkF m 162 #[.val (.int p1), .val (.int p2), .val (.int p3), .val (.int p4), .val (.int p5), .val (.int p6), .val (.int nn), .val (.ref b1), .val (.ref r7), .unset] [])) _
            refine XS.iconst X11.here hx rfl (hb hby at_162) ?_
            show Steps p.tables e below (T11.setTop (mkF m 163 #[.val (.int p1), .val (.int p2), .val (.int p3), .val (.int p4), .val (.int p5), .val (.int p6), .val (.int nn), .val (.ref b1), .val (.ref r7), .unset] [(.int (0 : Int32))])) _
            refine XS.istore X11.here hx rfl (hb hby at_163) rfl (l' := #[.val (.int p1), .val (.int p2), .val (.int p3), .val (.int p4), .val (.int p5), .val (.int p6), .val (.int nn), .val (.ref b1), .val (.ref r7), .val (.int (0 : Int32))]) rfl ?_
            show Steps p.tables e below (T11.setTop (mkF m 165 #[.val (.int p1), .val (.int p2), .val (.int p3), .val (.int p4), .val (.int p5), .val (.int p6), .val (.int nn), .val (.ref b1), .val (.ref r7), .val (.int (0 : Int32))] [])) _
            exact k
          exact hseg8 T11 _ _ _ (0 : Int32) (X11.more (by decide) (by decide)) Kq11 N hS hk hZ hown M (fun qq_ => absurd qq_ (fun z0 => (fun z1 => z1.elim C1 (fun z2 => A1 z2.1)) z0.2)) (fun _ => rfl)
    · refine own_go (B := T9.setTop (mkF m 165 #[.val (.int p1), .val (.int p2), .val (.int p3), .val (.int p4), .val (.int p5), .val (.int p6), .val (.int nn), .val (.ref b1), .val (.ref r7), .val (.int (0 : Int32))] [])) (fun t k => ?_) ?_
      · show Steps p.tables e below (T9.setTop (mkF m 78 #[.val (.int p1), .val (.int p2), .val (.int p3), .val (.int p4), .val (.int p5), .val (.int p6), .val (.int nn), .val (.ref b1), .val (.ref r7), .unset] [(.int b9)])) _
        refine XS.ifYes X9.here hx rfl (pc0 := 78) (pc' := 162) rfl (hb hby at_78) rfl ((if0 _ _).trans (teq (cq9_1 L0)).1) (by decide) (by decide) ?_
        show Steps p.tables e below (T9.setTop (mkF m 162 #[.val (.int p1), .val (.int p2), .val (.int p3), .val (.int p4), .val (.int p5), .val (.int p6), .val (.int nn), .val (.ref b1), .val (.ref r7), .unset] [])) _
        refine XS.iconst X9.here hx rfl (hb hby at_162) ?_
        show Steps p.tables e below (T9.setTop (mkF m 163 #[.val (.int p1), .val (.int p2), .val (.int p3), .val (.int p4), .val (.int p5), .val (.int p6), .val (.int nn), .val (.ref b1), .val (.ref r7), .unset] [(.int (0 : Int32))])) _
        refine XS.istore X9.here hx rfl (hb hby at_163) rfl (l' := #[.val (.int p1), .val (.int p2), .val (.int p3), .val (.int p4), .val (.int p5), .val (.int p6), .val (.int nn), .val (.ref b1), .val (.ref r7), .val (.int (0 : Int32))]) rfl ?_
        show Steps p.tables e below (T9.setTop (mkF m 165 #[.val (.int p1), .val (.int p2), .val (.int p3), .val (.int p4), .val (.int p5), .val (.int p6), .val (.int nn), .val (.ref b1), .val (.ref r7), .val (.int (0 : Int32))] [])) _
        exact k
      exact hseg8 T9 _ _ _ (0 : Int32) (X9.more (by decide) (by decide)) Kq9 N hS hk hZ hown M (fun qq_ => absurd qq_ (fun z0 => L0 z0.1)) (fun _ => rfl)
  intro T8 vm8 kk8 L8 xp8 X8 e8 N hS hk hZ hown M sc8_0 sc8_1
  have KM : Keep T7.heap T7.heap [] := Keep.refl _ _
  refine own_go (B := T8.setTop (mkF m 167 #[.val (.int p1), .val (.int p2), .val (.int p3), .val (.int p4), .val (.int p5), .val (.int p6), .val (.int nn), .val (.ref b1), .val (.ref r7), .val (.int xp8)] [(.ref r7)])) (fun t k => ?_) ?_
  · show Steps p.tables e below (T8.setTop (mkF m 165 #[.val (.int p1), .val (.int p2), .val (.int p3), .val (.int p4), .val (.int p5), .val (.int p6), .val (.int nn), .val (.ref b1), .val (.ref r7), .val (.int xp8)] [])) _
    refine XS.aload X8.here hx rfl (hb hby at_165) rfl rfl ?_
    show Steps p.tables e below (T8.setTop (mkF m 167 #[.val (.int p1), .val (.int p2), .val (.int p3), .val (.int p4), .val (.int p5), .val (.int p6), .val (.int nn), .val (.ref b1), .val (.ref r7), .val (.int xp8)] [(.ref r7)])) _
    exact k
  -- pc 167: org/bindery/Iri.isAbsolute
  obtain ⟨_, _, ⟨T17, L17, k17, n17⟩, -, X17, ⟨Lc17, hQ17, l17, y17, z17⟩, st17⟩ := Jvm.LawKit.callS X8 hx (y := (⟨"org/bindery/Iri", "isAbsolute", "(Ljava/lang/String;)Z"⟩ : MethodName)) hown (mvT hZ (hw _ (List.mem_of_getElem? (i := 30) rfl))) (mvT hZ (hw _ (List.mem_of_getElem? (i := 31) rfl))) (mvT hZ (hw _ (List.mem_of_getElem? (i := 32) rfl))) (mvT hZ (hw _ (List.mem_of_getElem? (i := 33) rfl))) (by decide) (backOf (W := 0) (rmAbs l Z a0 hw [] r7 t7 k7 cs7 zc fm T7.heap n0 O Gq7_0 Gq7_1 Gq7_2 Gq7_3 S_C S_F hcs rF cq7_1 cq7_2) hZ (hw _ (List.mem_of_getElem? (i := 33) rfl)) (hw _ (List.mem_of_getElem? (i := 32) rfl)) (by decide) (by decide)) (g := (mkF m 167 #[.val (.int p1), .val (.int p2), .val (.int p3), .val (.int p4), .val (.int p5), .val (.int p6), .val (.int nn), .val (.ref b1), .val (.ref r7), .val (.int xp8)] [(.ref r7)])) rfl (by rw [hml]; rfl) (argsL := [(.ref r7)]) (rest := []) (lenOf pd_8 rfl) rfl (by show 2 * 0 + _ ≤ _; exact Nat.le_of_eq rfl) (hb hby at_167) (fun _ hWm => ⟨rfl, e8, (by decide : 5 + 0 ≤ _), (by decide : 19 + 0 ≤ _)⟩)
  dsimp only [Pt.U, Pt.locs, Pt.cells, Pt.slots] at X17 l17 y17 z17 st17 hQ17
  subst l17 y17 z17
  obtain ⟨b17, rfl, Nq17, Kq17, cq17_0⟩ := hQ17
  replace N := Fr.app N Nq17
  refine own_go (B := T17.setTop (mkF m 170 #[.val (.int p1), .val (.int p2), .val (.int p3), .val (.int p4), .val (.int p5), .val (.int p6), .val (.int nn), .val (.ref b1), .val (.ref r7), .val (.int xp8)] [(.int b17)])) st17 ?_
  have hFnl := own_final (c0 := c0) (c1 := c1) (c2 := c2) (c3 := c3) (c4 := c4) bnn
  rw [cq7_0] at cq17_0
  by_cases qE : own_exp nn c0 c1 c2 c3 c4
  · refine own_go (B := T17.setTop (mkF m 180 #[.val (.int p1), .val (.int p2), .val (.int p3), .val (.int p4), .val (.int p5), .val (.int p6), .val (.int nn), .val (.ref b1), .val (.ref r7), .val (.int xp8)] [(.int (1 : Int32))])) (fun t k => ?_) ?_
    · show Steps p.tables e below (T17.setTop (mkF m 170 #[.val (.int p1), .val (.int p2), .val (.int p3), .val (.int p4), .val (.int p5), .val (.int p6), .val (.int nn), .val (.ref b1), .val (.ref r7), .val (.int xp8)] [(.int b17)])) _
      refine XS.iload X17.here hx rfl (hb hby at_170) rfl ?_
      show Steps p.tables e below (T17.setTop (mkF m 172 #[.val (.int p1), .val (.int p2), .val (.int p3), .val (.int p4), .val (.int p5), .val (.int p6), .val (.int nn), .val (.ref b1), .val (.ref r7), .val (.int xp8)] [(.int xp8), (.int b17)])) _
      refine XS.icmpNo X17.here hx rfl (hb hby at_172) rfl (teq (by rw [cq17_0, sc8_0 qE]; exact hFnl.trans (if_pos qE))).2 ?_
      show Steps p.tables e below (T17.setTop (mkF m 175 #[.val (.int p1), .val (.int p2), .val (.int p3), .val (.int p4), .val (.int p5), .val (.int p6), .val (.int nn), .val (.ref b1), .val (.ref r7), .val (.int xp8)] [])) _
      refine XS.iconst X17.here hx rfl (hb hby at_175) ?_
      show Steps p.tables e below (T17.setTop (mkF m 176 #[.val (.int p1), .val (.int p2), .val (.int p3), .val (.int p4), .val (.int p5), .val (.int p6), .val (.int nn), .val (.ref b1), .val (.ref r7), .val (.int xp8)] [(.int (1 : Int32))])) _
      refine XS.goto X17.here hx rfl (pc0 := 176) (pc' := 180) rfl (hb hby at_176) (by decide) (by decide) ?_
      show Steps p.tables e below (T17.setTop (mkF m 180 #[.val (.int p1), .val (.int p2), .val (.int p3), .val (.int p4), .val (.int p5), .val (.int p6), .val (.int nn), .val (.ref b1), .val (.ref r7), .val (.int xp8)] [(.int (1 : Int32))])) _
      exact k
    obtain ⟨fs, hr, hrun, hended, hEnd⟩ := X17.leaveW hS (by rw [Kq17]; exact hk) (v := some (.int (1 : Int32))) (fun h => by rw [Bd.returns] at h; cases h)
    refine ⟨_, _, retN X17 hx (t := .boolean) Bd.returns (by simp) (hb hby at_180) hr, hfin _ _ ⟨hrun, hended, _, _, rfl, ?_, hEnd.1, hEnd.2.1, hEnd.2.2.1, hEnd.2.2.2.mono (by decide) (by decide)⟩⟩
    show Q0 Z p1 p2 p3 p4 p5 p6 zc fm h0 n0 _ T17.heap _
    rw [Kq17]
    exact ⟨rfl, N⟩
  · refine own_go (B := T17.setTop (mkF m 180 #[.val (.int p1), .val (.int p2), .val (.int p3), .val (.int p4), .val (.int p5), .val (.int p6), .val (.int nn), .val (.ref b1), .val (.ref r7), .val (.int xp8)] [(.int (1 : Int32))])) (fun t k => ?_) ?_
    · show Steps p.tables e below (T17.setTop (mkF m 170 #[.val (.int p1), .val (.int p2), .val (.int p3), .val (.int p4), .val (.int p5), .val (.int p6), .val (.int nn), .val (.ref b1), .val (.ref r7), .val (.int xp8)] [(.int b17)])) _
      refine XS.iload X17.here hx rfl (hb hby at_170) rfl ?_
      show Steps p.tables e below (T17.setTop (mkF m 172 #[.val (.int p1), .val (.int p2), .val (.int p3), .val (.int p4), .val (.int p5), .val (.int p6), .val (.int nn), .val (.ref b1), .val (.ref r7), .val (.int xp8)] [(.int xp8), (.int b17)])) _
      refine XS.icmpNo X17.here hx rfl (hb hby at_172) rfl (teq (by rw [cq17_0, sc8_1 qE]; exact hFnl.trans (if_neg qE))).2 ?_
      show Steps p.tables e below (T17.setTop (mkF m 175 #[.val (.int p1), .val (.int p2), .val (.int p3), .val (.int p4), .val (.int p5), .val (.int p6), .val (.int nn), .val (.ref b1), .val (.ref r7), .val (.int xp8)] [])) _
      refine XS.iconst X17.here hx rfl (hb hby at_175) ?_
      show Steps p.tables e below (T17.setTop (mkF m 176 #[.val (.int p1), .val (.int p2), .val (.int p3), .val (.int p4), .val (.int p5), .val (.int p6), .val (.int nn), .val (.ref b1), .val (.ref r7), .val (.int xp8)] [(.int (1 : Int32))])) _
      refine XS.goto X17.here hx rfl (pc0 := 176) (pc' := 180) rfl (hb hby at_176) (by decide) (by decide) ?_
      show Steps p.tables e below (T17.setTop (mkF m 180 #[.val (.int p1), .val (.int p2), .val (.int p3), .val (.int p4), .val (.int p5), .val (.int p6), .val (.int nn), .val (.ref b1), .val (.ref r7), .val (.int xp8)] [(.int (1 : Int32))])) _
      exact k
    obtain ⟨fs, hr, hrun, hended, hEnd⟩ := X17.leaveW hS (by rw [Kq17]; exact hk) (v := some (.int (1 : Int32))) (fun h => by rw [Bd.returns] at h; cases h)
    refine ⟨_, _, retN X17 hx (t := .boolean) Bd.returns (by simp) (hb hby at_180) hr, hfin _ _ ⟨hrun, hended, _, _, rfl, ?_, hEnd.1, hEnd.2.1, hEnd.2.2.1, hEnd.2.2.2.mono (by decide) (by decide)⟩⟩
    show Q0 Z p1 p2 p3 p4 p5 p6 zc fm h0 n0 _ T17.heap _
    rw [Kq17]
    exact ⟨rfl, N⟩
set_option maxRecDepth 65536 in
set_option maxHeartbeats 40000000 in
theorem comes_1 {Post : Tables → Env → Array Value → State → Outcome → State → Prop} (hpost : ∀ tb e args s v u, (limb_1_1.after args s (.returned v) u = true ∧ limb_1_2.after args s (.returned v) u = true ∧ True) → ReturnedEndW s (.returned v) u (Jvm.fieldLocs frame_1_writes args s ++ Jvm.arrayLocs frame_1_arrays args s ++ Jvm.staticLocs frame_1_statics s) 24 1152 → Post tb e args s (.returned v) u) :
    ArmFor flags0 classFile x code maxLocals ret World_1 tables_1 room_1 Calls_1 rest_1 Pre_1 Post := by
  intro l hfl _ _ p e ha hc hk s m args below hf hA hF happ hP
  obtain ⟨hcalls, hrest, hpre⟩ := hP
  obtain ⟨-, -, -, hnamed, -, -, -, hat⟩ := (Spec.applies_iff hf).mp happ
  obtain ⟨hg, hn⟩ := and_e (Cond.before_iff.mp (show (Jvm.Cond.and given_1 narrow_1).before args s = true from hpre))
  obtain ⟨gc, gr0⟩ := and_e hg
  obtain ⟨gi0, gr1⟩ := and_e gr0
  obtain ⟨gi1, gr2⟩ := and_e gr1
  obtain ⟨gi2, gr3⟩ := and_e gr2
  obtain ⟨gi3, gr4⟩ := and_e gr3
  obtain ⟨gi4, gr5⟩ := and_e gr4
  have gi5 := gr5
  obtain ⟨w0, w1, w2, w3, w4, w5, rfl⟩ : ∃ w0 w1 w2 w3 w4 w5 : Value, args = #[w0, w1, w2, w3, w4, w5] := by
    have hs : args.size = 6 := by simpa [Cond.value, given_1] using gc
    obtain ⟨L⟩ := args
    match L, hs with
    | [w0, w1, w2, w3, w4, w5], _ => exact ⟨w0, w1, w2, w3, w4, w5, rfl⟩
  have hw := fun d (hd : d ∈ tables_1) => atoms_spec (ws := Jvm.Cond.code x code maxLocals ret :: tables_1) hat d (List.mem_cons_of_mem _ hd)
  have hfit : Fit s := fun {y c} hc i hi => by
    obtain ⟨ha, rfl⟩ := Array.getElem?_eq_some_iff.mp hc
    have q := List.all_eq_true.mp ((Array.all_eq_true_iff_forall_mem.mp hF) _ (Array.getElem_mem ha)) i (List.mem_range.mpr hi)
    simpa [Array.getElem?_eq_getElem hi] using q
  obtain ⟨i0, ei0⟩ := is_v gi0
  obtain rfl : w0 = (.int i0) := Option.some.inj ei0
  obtain ⟨i1, ei1⟩ := is_v gi1
  obtain rfl : w1 = (.int i1) := Option.some.inj ei1
  obtain ⟨i2, ei2⟩ := is_v gi2
  obtain rfl : w2 = (.int i2) := Option.some.inj ei2
  obtain ⟨i3, ei3⟩ := is_v gi3
  obtain rfl : w3 = (.int i3) := Option.some.inj ei3
  obtain ⟨i4, ei4⟩ := is_v gi4
  obtain rfl : w4 = (.int i4) := Option.some.inj ei4
  obtain ⟨i5, ei5⟩ := is_v gi5
  obtain rfl : w5 = (.int i5) := Option.some.inj ei5
  obtain ⟨hsets, hown0⟩ := atoms_of _ (rest_1_c_eq ▸ (show rest_1_c.before _ s = true from hrest))
  obtain ⟨zc, ezc⟩ := is_v (Cond.before_iff.mp (hsets _ (List.mem_of_getElem? (i := 1) rfl)))
  have S_C := Sta.start ezc (Or.inl (hsets _ (List.mem_of_getElem? (i := 0) rfl)))
  have hcs : ¬ zc = (0 : Int32) := by
    have q := not_v (Cond.before_iff.mp (hsets _ (List.mem_of_getElem? (i := 2) rfl)))
    have r := gotF (Jvm.Cond.eq_ints ezc (Term.int_eval 0)) q
    exact r
  have hcH : Jvm.Lit.constHeld s "java/lang/String" 7 := hcalls.1 ("java/lang/String", 7) (by decide)
  have hcw : Jvm.Lit.compactW.before _ s = true := (hsets _ (List.mem_of_getElem? (i := 2) rfl))
  obtain ⟨fm, efm, rF⟩ := isR_v (Cond.before_iff.mp (hsets _ (List.mem_of_getElem? (i := 8) rfl)))
  have S_F := Sta.start efm (Or.inl (hsets _ (List.mem_of_getElem? (i := 7) rfl)))
  obtain ⟨n, o, h1, h2, h3, _, L, rfl, ⟨rfl, N⟩, hq⟩ := rm0 l s _ hw tables_1 i0 i1 i2 i3 i4 i5 zc fm s.heap s.heap.size (Old.start s) S_C S_F hcs rF hcH hcw p e ha hc hk s m _ below hf ((Spec.applies_iff_loose hf).mp happ).1 ⟨rfl, State.Warmed39.refl s, rfl, Or.inl IB.start⟩ trivial
  refine ⟨n, _, h1, h2, h3, hpost _ _ _ _ _ _ ⟨Cond.after_iff.mpr rfl, Cond.after_iff.mpr (eq_i res_at (Term.int_eval (1)) rfl), trivial⟩ ⟨hq.1, hq.2.1, hq.2.2.1, (hq.2.2.2.sift fun y hy => Or.inr (N y hy)).mono (by decide) (by decide)⟩⟩
theorem main_1_1 : Claimed_1_1 := comes_1 fun _ _ _ _ _ _ h hF => ⟨h.1, hF⟩
theorem main_1_2 : Claimed_1_2 := comes_1 fun _ _ _ _ _ _ h hF => ⟨h.2.1, hF⟩
end Jvm.Pilot.@@N@@
namespace Jvm.Pilot.@@N@@
open Jvm Jvm.ClassFile Sem Op Lib Jvm.Free Jvm.Stand Jvm.Pilot.@@N@@.Jvm.D
/-! MADE BY PROGRAM (witnessworld.py) out of the Statement's table words and the real class files: 20 classes; the members and pool entries that the words name. The judged class is class 1, her method 1. -/
namespace start1
open Jvm.ClassFile
def u (s : String) : CpInfo := .utf8 (stringToUtf16 s)
/-- a pool by its gaps: so many unusable entries, then the entry; so many at the end -/
def gap : Nat → List CpInfo → List CpInfo
  | 0, r => r
  | n + 1, r => .unusable :: gap n r
def poolList (es : List (Nat × CpInfo)) (last : Nat) : List CpInfo := es.foldr (fun e r => gap e.1 (e.2 :: r)) (gap last [])
def pool (es : List (Nat × CpInfo)) (last : Nat) : Array CpInfo := ⟨poolList es last⟩
def fileOf (pool : Array CpInfo) (this : Nat) (attrs : Array Attribute := #[]) (ms : Array MethodInfo := #[]) (fl : Nat := 33) (sup : Nat := 0) (ifs : Array Nat := #[]) (fds : Array FieldInfo := #[]) : ClassFile where
  minorVersion := 0
  majorVersion := 65
  constantPool := pool
  accessFlags := fl
  thisClass := this
  superClass := sup
  interfaces := ifs
  fields := fds
  methods := ms
  attributes := attrs
def plain (name : String) (sup : Option ClassId) : Class where
  name := name
  kind := .ordinary
  loader := none
  accessFlags := 33
  super := sup
  interfaces := #[]
  cf := none
  fields := #[]
  methods := #[]
  instanceTypes := #[]
  staticTypes := #[]
  resolved := #[]
  callSites := []
  init := .initialized
  statics := none
  mirror := none

def pool0 : Array CpInfo := pool [(5, u "<init>"), (0, u "()V"), (1, .class_ 10), (1, u "java/lang/Object")] 113

def k0c0 : Code := { maxStack := 0, maxLocals := 1, code := object_method_1_code, exceptionTable := #[], attributes := #[] }
def k0m0 : Method := { name := "<init>", desc := "()V", sig := { parameters := [], returnType := none }, accessFlags := 1, code := some k0c0 }
/-- java/lang/Object -/
def k0 : Class := { plain "java/lang/Object" none with
  accessFlags := 33
  interfaces := #[]
  cf := some (fileOf pool0 8 #[] #[{ accessFlags := 1, nameIndex := 5, descriptorIndex := 6, attributes := #[] }] 33 0 #[] #[])
  fields := #[]
  methods := #[k0m0]
  instanceTypes := #[]
  staticTypes := #[]
  resolved := Array.replicate 124 none
  statics := none }

def pool1 : Array CpInfo := pool [(2, .class_ 4), (1, u "java/lang/Object"), (0, u "<init>"), (0, u "()V"), (0, .integer 2147483647), (0, .methodref 9 10), (0, .class_ 11), (0, .nameAndType 12 13), (0, u "org/bindery/IriIsAbsolutePinLaw"), (0, u "take"), (0, u "([CI)Ljava/lang/String;"), (0, .methodref 9 15), (0, .nameAndType 16 17), (0, u "letterAt"), (0, u "([CII)Z"), (0, .methodref 9 19), (0, .nameAndType 20 17), (0, u "colonAt"), (0, .methodref 9 22), (0, .nameAndType 23 17), (0, u "laterAt"), (0, .methodref 25 26), (0, .class_ 27), (0, .nameAndType 28 29), (0, u "org/bindery/Iri"), (0, u "isAbsolute"), (0, u "(Ljava/lang/String;)Z"), (0, .class_ 31), (0, u "java/lang/String"), (0, .methodref 30 33), (0, .nameAndType 5 34), (0, u "([C)V"), (0, .methodref 9 36), (0, .nameAndType 37 38), (0, u "letter"), (0, u "(C)Z"), (0, .methodref 9 40), (0, .nameAndType 41 38), (0, u "later"), (2, u "law"), (0, u "(IIIIII)Z")] 5

def k1m0 : Method := { name := "<init>", desc := "()V", sig := { parameters := [], returnType := none }, accessFlags := 2, code := none }
def k1c1 : Code := { maxStack := 5, maxLocals := 10, code := code, exceptionTable := #[], attributes := #[] }
def k1m1 : Method := { name := "law", desc := "(IIIIII)Z", sig := { parameters := [.int, .int, .int, .int, .int, .int], returnType := some .boolean }, accessFlags := 9, code := some k1c1 }
def k1c2 : Code := { maxStack := 7, maxLocals := 2, code := method_3_code, exceptionTable := #[], attributes := #[] }
def k1m2 : Method := { name := "take", desc := "([CI)Ljava/lang/String;", sig := { parameters := [(.array .char), .int], returnType := some (.object "java/lang/String") }, accessFlags := 10, code := some k1c2 }
def k1c3 : Code := { maxStack := 2, maxLocals := 1, code := method_4_code, exceptionTable := #[], attributes := #[] }
def k1m3 : Method := { name := "letter", desc := "(C)Z", sig := { parameters := [.char], returnType := some .boolean }, accessFlags := 10, code := some k1c3 }
def k1c4 : Code := { maxStack := 2, maxLocals := 1, code := method_5_code, exceptionTable := #[], attributes := #[] }
def k1m4 : Method := { name := "later", desc := "(C)Z", sig := { parameters := [.char], returnType := some .boolean }, accessFlags := 10, code := some k1c4 }
def k1c5 : Code := { maxStack := 2, maxLocals := 3, code := method_6_code, exceptionTable := #[], attributes := #[] }
def k1m5 : Method := { name := "letterAt", desc := "([CII)Z", sig := { parameters := [(.array .char), .int, .int], returnType := some .boolean }, accessFlags := 10, code := some k1c5 }
def k1c6 : Code := { maxStack := 2, maxLocals := 3, code := method_7_code, exceptionTable := #[], attributes := #[] }
def k1m6 : Method := { name := "laterAt", desc := "([CII)Z", sig := { parameters := [(.array .char), .int, .int], returnType := some .boolean }, accessFlags := 10, code := some k1c6 }
def k1c7 : Code := { maxStack := 2, maxLocals := 3, code := method_8_code, exceptionTable := #[], attributes := #[] }
def k1m7 : Method := { name := "colonAt", desc := "([CII)Z", sig := { parameters := [(.array .char), .int, .int], returnType := some .boolean }, accessFlags := 10, code := some k1c7 }
/-- org/bindery/IriIsAbsolutePinLaw -/
def k1 : Class := { plain "org/bindery/IriIsAbsolutePinLaw" (some 0) with
  accessFlags := 49
  interfaces := #[]
  cf := some (fileOf pool1 9 #[] #[{ accessFlags := 2, nameIndex := 5, descriptorIndex := 6, attributes := #[] }, { accessFlags := 9, nameIndex := 44, descriptorIndex := 45, attributes := #[] }, { accessFlags := 10, nameIndex := 12, descriptorIndex := 13, attributes := #[] }, { accessFlags := 10, nameIndex := 37, descriptorIndex := 38, attributes := #[] }, { accessFlags := 10, nameIndex := 41, descriptorIndex := 38, attributes := #[] }, { accessFlags := 10, nameIndex := 16, descriptorIndex := 17, attributes := #[] }, { accessFlags := 10, nameIndex := 23, descriptorIndex := 17, attributes := #[] }, { accessFlags := 10, nameIndex := 20, descriptorIndex := 17, attributes := #[] }] 49 2 #[] #[])
  fields := #[]
  methods := #[k1m0, k1m1, k1m2, k1m3, k1m4, k1m5, k1m6, k1m7]
  instanceTypes := #[]
  staticTypes := #[]
  resolved := Array.replicate 51 none
  statics := none }

def pool2 : Array CpInfo := pool [(1, .class_ 2), (0, u "java/io/Serializable"), (0, .class_ 4), (0, u "java/lang/Object")] 2

/-- java/io/Serializable -/
def k2 : Class := { plain "java/io/Serializable" (some 0) with
  accessFlags := 1537
  interfaces := #[]
  cf := some (fileOf pool2 1 #[] #[] 1537 3 #[] #[])
  fields := #[]
  methods := #[]
  instanceTypes := #[]
  staticTypes := #[]
  resolved := Array.replicate 7 none
  statics := none }

def pool3 : Array CpInfo := pool [(1, .class_ 2), (0, u "java/lang/Comparable"), (0, .class_ 4), (0, u "java/lang/Object")] 7

/-- java/lang/Comparable -/
def k3 : Class := { plain "java/lang/Comparable" (some 0) with
  accessFlags := 1537
  interfaces := #[]
  cf := some (fileOf pool3 1 #[] #[] 1537 3 #[] #[])
  fields := #[]
  methods := #[]
  instanceTypes := #[]
  staticTypes := #[]
  resolved := Array.replicate 12 none
  statics := none }

def pool4 : Array CpInfo := pool [(2, .class_ 4), (1, u "java/lang/CharSequence"), (42, .class_ 48), (0, u "java/lang/CharSequence$1CodePointIterator"), (10, .class_ 60), (0, u "java/lang/CharSequence$1CharIterator"), (5, .class_ 67), (0, u "java/lang/Object")] 63

/-- java/lang/CharSequence -/
def k4 : Class := { plain "java/lang/CharSequence" (some 0) with
  accessFlags := 1537
  interfaces := #[]
  cf := some (fileOf pool4 2 #[.nestMembers #[47, 59]] #[] 1537 66 #[] #[])
  fields := #[]
  methods := #[]
  instanceTypes := #[]
  staticTypes := #[]
  resolved := Array.replicate 131 none
  statics := none }

def pool5 : Array CpInfo := pool [(1, .class_ 2), (0, u "java/lang/constant/Constable"), (0, .class_ 4), (0, u "java/lang/Object")] 6

/-- java/lang/constant/Constable -/
def k5 : Class := { plain "java/lang/constant/Constable" (some 0) with
  accessFlags := 1537
  interfaces := #[]
  cf := some (fileOf pool5 1 #[] #[] 1537 3 #[] #[])
  fields := #[]
  methods := #[]
  instanceTypes := #[]
  staticTypes := #[]
  resolved := Array.replicate 11 none
  statics := none }

def pool6 : Array CpInfo := pool [(1, .class_ 2), (0, u "java/lang/constant/ConstantDesc"), (0, .class_ 4), (0, u "java/lang/Object")] 32

/-- java/lang/constant/ConstantDesc -/
def k6 : Class := { plain "java/lang/constant/ConstantDesc" (some 0) with
  accessFlags := 1537
  interfaces := #[]
  cf := some (fileOf pool6 1 #[] #[] 1537 3 #[] #[])
  fields := #[]
  methods := #[]
  instanceTypes := #[]
  staticTypes := #[]
  resolved := Array.replicate 37 none
  statics := none }

def pool7 : Array CpInfo := pool [(1, .methodref 2 3), (0, .class_ 4), (0, .nameAndType 5 6), (0, u "java/lang/Object"), (0, u "<init>"), (0, u "()V"), (0, .string 8), (0, u ""), (0, .fieldref 10 11), (0, .class_ 12), (0, .nameAndType 13 14), (0, u "java/lang/String"), (0, u "value"), (0, u "[B"), (0, .fieldref 10 16), (0, .nameAndType 17 18), (0, u "coder"), (0, u "B"), (2, u "hash"), (0, u "I"), (2, u "hashIsZero"), (0, u "Z"), (0, .methodref 10 28), (0, .nameAndType 5 29), (0, u "([CIILjava/lang/Void;)V"), (8, .fieldref 10 39), (0, .nameAndType 40 26), (0, u "COMPACT_STRINGS"), (1, .class_ 44), (1, u "java/lang/StringUTF16"), (0, u "compress"), (1, .methodref 42 48), (0, .nameAndType 49 50), (0, u "coderFromArrayLen"), (0, u "([BI)B"), (56, .class_ 109), (1, u "java/lang/StringLatin1"), (32, u "()Z"), (34, .methodref 42 178), (0, .nameAndType 45 179), (0, u "([CII)[B"), (154, u "()I"), (0, .methodref 10 336), (0, .nameAndType 17 337), (0, u "()B"), (25, u "([BI)C"), (27, u "(II)V"), (35, u "(I)C"), (64, .methodref 10 493), (0, .nameAndType 494 142), (0, u "isLatin1"), (0, .methodref 107 496), (0, .nameAndType 497 363), (0, u "charAt"), (3, u "checkIndex"), (5, u "length"), (67, .class_ 576), (0, u "java/lang/CharSequence"), (22, u "CASE_INSENSITIVE_ORDER"), (0, u "Ljava/util/Comparator;"), (409, u "([C)V"), (42, .fieldref 1054 1055), (0, .class_ 1056), (0, .nameAndType 1057 1058), (0, u "jdk/internal/util/Preconditions"), (0, u "SIOOBE_FORMATTER"), (0, u "Ljava/util/function/BiFunction;"), (0, .methodref 1054 1060), (0, .nameAndType 501 1061), (0, u "(IILjava/util/function/BiFunction;)I"), (39, u "serialPersistentFields"), (0, u "[Ljava/io/ObjectStreamField;"), (0, .class_ 1104), (0, u "java/lang/String$CaseInsensitiveComparator"), (1, .class_ 1107), (0, u "java/io/Serializable"), (0, .class_ 1109), (0, u "java/lang/Comparable"), (0, .class_ 1111), (0, u "java/lang/constant/Constable"), (0, .class_ 1113), (0, u "java/lang/constant/ConstantDesc"), (2, u "serialVersionUID"), (0, u "J"), (3, u "REPL"), (0, u "C"), (2, u "LATIN1"), (1, u "UTF16")] 323

def k7m0 : Method := { name := "<init>", desc := "()V", sig := { parameters := [], returnType := none }, accessFlags := 1, code := none }
def k7c1 : Code := { maxStack := 5, maxLocals := 2, code := jdk_42_method_3_code, exceptionTable := #[], attributes := #[] }
def k7m1 : Method := { name := "<init>", desc := "([C)V", sig := { parameters := [(.array .char)], returnType := none }, accessFlags := 1, code := some k7c1 }
def k7c2 : Code := { maxStack := 2, maxLocals := 1, code := jdk_42_method_54_code, exceptionTable := #[], attributes := #[] }
def k7m2 : Method := { name := "length", desc := "()I", sig := { parameters := [], returnType := some .int }, accessFlags := 1, code := some k7c2 }
def k7c3 : Code := { maxStack := 2, maxLocals := 2, code := jdk_42_method_56_code, exceptionTable := #[], attributes := #[] }
def k7m3 : Method := { name := "charAt", desc := "(I)C", sig := { parameters := [.int], returnType := some .char }, accessFlags := 1, code := some k7c3 }
def k7c4 : Code := { maxStack := 4, maxLocals := 6, code := jdk_42_method_149_code, exceptionTable := #[], attributes := #[] }
def k7m4 : Method := { name := "<init>", desc := "([CIILjava/lang/Void;)V", sig := { parameters := [(.array .char), .int, .int, (.object "java/lang/Void")], returnType := none }, accessFlags := 2, code := some k7c4 }
def k7c5 : Code := { maxStack := 1, maxLocals := 1, code := jdk_42_method_152_code, exceptionTable := #[], attributes := #[] }
def k7m5 : Method := { name := "coder", desc := "()B", sig := { parameters := [], returnType := some .byte }, accessFlags := 0, code := some k7c5 }
def k7c6 : Code := { maxStack := 1, maxLocals := 1, code := jdk_42_method_154_code, exceptionTable := #[], attributes := #[] }
def k7m6 : Method := { name := "isLatin1", desc := "()Z", sig := { parameters := [], returnType := some .boolean }, accessFlags := 0, code := some k7c6 }
def k7c7 : Code := { maxStack := 3, maxLocals := 2, code := jdk_42_method_155_code, exceptionTable := #[], attributes := #[] }
def k7m7 : Method := { name := "checkIndex", desc := "(II)V", sig := { parameters := [.int, .int], returnType := none }, accessFlags := 8, code := some k7c7 }
/-- java/lang/String -/
def k7 : Class := { plain "java/lang/String" (some 0) with
  accessFlags := 49
  interfaces := #[2, 3, 4, 5, 6]
  cf := some (fileOf pool7 10 #[.nestMembers #[1103]] #[{ accessFlags := 1, nameIndex := 5, descriptorIndex := 6, attributes := #[] }, { accessFlags := 1, nameIndex := 5, descriptorIndex := 1010, attributes := #[] }, { accessFlags := 1, nameIndex := 507, descriptorIndex := 334, attributes := #[] }, { accessFlags := 1, nameIndex := 497, descriptorIndex := 427, attributes := #[] }, { accessFlags := 2, nameIndex := 5, descriptorIndex := 29, attributes := #[] }, { accessFlags := 0, nameIndex := 17, descriptorIndex := 337, attributes := #[] }, { accessFlags := 0, nameIndex := 494, descriptorIndex := 142, attributes := #[] }, { accessFlags := 8, nameIndex := 501, descriptorIndex := 391, attributes := #[] }] 49 2 #[1106, 1108, 575, 1110, 1112] #[{ accessFlags := 18, nameIndex := 13, descriptorIndex := 14, attributes := #[] }, { accessFlags := 18, nameIndex := 17, descriptorIndex := 18, attributes := #[] }, { accessFlags := 2, nameIndex := 21, descriptorIndex := 22, attributes := #[] }, { accessFlags := 2, nameIndex := 25, descriptorIndex := 26, attributes := #[] }, { accessFlags := 26, nameIndex := 1116, descriptorIndex := 1117, attributes := #[] }, { accessFlags := 24, nameIndex := 40, descriptorIndex := 26, attributes := #[] }, { accessFlags := 26, nameIndex := 1101, descriptorIndex := 1102, attributes := #[] }, { accessFlags := 26, nameIndex := 1121, descriptorIndex := 1122, attributes := #[] }, { accessFlags := 25, nameIndex := 599, descriptorIndex := 600, attributes := #[] }, { accessFlags := 24, nameIndex := 1125, descriptorIndex := 18, attributes := #[] }, { accessFlags := 24, nameIndex := 1127, descriptorIndex := 18, attributes := #[] }])
  fields := #[{ name := "value", type := (.array .byte), accessFlags := 18, slot := 0, constantValue := 0 }, { name := "coder", type := .byte, accessFlags := 18, slot := 1, constantValue := 0 }, { name := "hash", type := .int, accessFlags := 2, slot := 2, constantValue := 0 }, { name := "hashIsZero", type := .boolean, accessFlags := 2, slot := 3, constantValue := 0 }, { name := "serialVersionUID", type := .long, accessFlags := 26, slot := 0, constantValue := 0 }, { name := "COMPACT_STRINGS", type := .boolean, accessFlags := 24, slot := 1, constantValue := 0 }, { name := "serialPersistentFields", type := (.array (.object "java/io/ObjectStreamField")), accessFlags := 26, slot := 2, constantValue := 0 }, { name := "REPL", type := .char, accessFlags := 26, slot := 3, constantValue := 0 }, { name := "CASE_INSENSITIVE_ORDER", type := (.object "java/util/Comparator"), accessFlags := 25, slot := 4, constantValue := 0 }, { name := "LATIN1", type := .byte, accessFlags := 24, slot := 5, constantValue := 0 }, { name := "UTF16", type := .byte, accessFlags := 24, slot := 6, constantValue := 0 }]
  methods := #[k7m0, k7m1, k7m2, k7m3, k7m4, k7m5, k7m6, k7m7]
  instanceTypes := #[(.array .byte), .byte, .int, .boolean]
  staticTypes := #[.long, .boolean, (.array (.object "java/io/ObjectStreamField")), .char, (.object "java/util/Comparator"), .byte, .byte]
  resolved := Array.replicate 1451 none
  statics := some 0 }

def pool8 : Array CpInfo := pool [(2, .class_ 4), (1, u "java/lang/Object"), (0, u "<init>"), (0, u "()V"), (0, .methodref 8 9), (0, .class_ 10), (0, .nameAndType 11 12), (0, u "java/lang/String"), (0, u "length"), (0, u "()I"), (0, .methodref 8 14), (0, .nameAndType 15 16), (0, u "charAt"), (0, u "(I)C"), (0, .methodref 18 19), (0, .class_ 20), (0, .nameAndType 21 22), (0, u "org/bindery/Iri"), (0, u "isSchemeCharacter"), (0, u "(CZ)Z"), (78, u "HEX"), (0, u "Ljava/util/HexFormat;"), (34, u "NOT_IN_URI"), (0, u "Ljava/lang/String;"), (3, u "isAbsolute"), (0, u "(Ljava/lang/String;)Z")] 46

def k8m0 : Method := { name := "<init>", desc := "()V", sig := { parameters := [], returnType := none }, accessFlags := 2, code := none }
def k8c1 : Code := { maxStack := 2, maxLocals := 2, code := prog_62_method_2_code, exceptionTable := #[], attributes := #[] }
def k8m1 : Method := { name := "isAbsolute", desc := "(Ljava/lang/String;)Z", sig := { parameters := [(.object "java/lang/String")], returnType := some .boolean }, accessFlags := 8, code := some k8c1 }
def k8c2 : Code := { maxStack := 2, maxLocals := 2, code := prog_62_method_3_code, exceptionTable := #[], attributes := #[] }
def k8m2 : Method := { name := "isSchemeCharacter", desc := "(CZ)Z", sig := { parameters := [.char, .boolean], returnType := some .boolean }, accessFlags := 10, code := some k8c2 }
/-- org/bindery/Iri -/
def k8 : Class := { plain "org/bindery/Iri" (some 0) with
  accessFlags := 48
  interfaces := #[]
  cf := some (fileOf pool8 18 #[] #[{ accessFlags := 2, nameIndex := 5, descriptorIndex := 6, attributes := #[] }, { accessFlags := 8, nameIndex := 142, descriptorIndex := 143, attributes := #[] }, { accessFlags := 10, nameIndex := 21, descriptorIndex := 22, attributes := #[] }] 48 2 #[] #[{ accessFlags := 26, nameIndex := 137, descriptorIndex := 138, attributes := #[] }, { accessFlags := 26, nameIndex := 101, descriptorIndex := 102, attributes := #[] }])
  fields := #[{ name := "NOT_IN_URI", type := (.object "java/lang/String"), accessFlags := 26, slot := 0, constantValue := 0 }, { name := "HEX", type := (.object "java/util/HexFormat"), accessFlags := 26, slot := 1, constantValue := 0 }]
  methods := #[k8m0, k8m1, k8m2]
  instanceTypes := #[]
  staticTypes := #[(.object "java/lang/String"), (.object "java/util/HexFormat")]
  resolved := Array.replicate 190 none
  statics := none }

def pool9 : Array CpInfo := pool [(6, .class_ 8), (1, u "java/lang/Object"), (0, u "<init>"), (0, u "()V"), (1, .class_ 14), (1, u "java/lang/StringUTF16"), (31, u "$assertionsDisabled"), (0, u "Z"), (13, u "HI_BYTE_SHIFT"), (0, u "I"), (2, u "LO_BYTE_SHIFT"), (49, .methodref 12 116), (0, .nameAndType 117 118), (0, u "compress"), (0, u "([CI[BII)I"), (3, u "([CII)[B"), (138, u "coderFromArrayLen"), (0, u "([BI)B"), (106, .class_ 371), (1, u "java/lang/StringUTF16$LinesSpliterator"), (58, u "MAX_LENGTH"), (196, .class_ 628), (0, u "java/lang/StringUTF16$CodePointsSpliterator"), (0, .class_ 630), (0, u "java/lang/StringUTF16$CharsSpliterator")] 4

def k9m0 : Method := { name := "<init>", desc := "()V", sig := { parameters := [], returnType := none }, accessFlags := 0, code := none }
def k9c1 : Code := { maxStack := 2, maxLocals := 2, code := jdk_52_method_15_code, exceptionTable := #[], attributes := #[] }
def k9m1 : Method := { name := "coderFromArrayLen", desc := "([BI)B", sig := { parameters := [(.array .byte), .int], returnType := some .byte }, accessFlags := 8, code := some k9c1 }
def k9c2 : Code := { maxStack := 5, maxLocals := 6, code := jdk_52_method_16_code, exceptionTable := #[], attributes := #[] }
def k9m2 : Method := { name := "compress", desc := "([CII)[B", sig := { parameters := [(.array .char), .int, .int], returnType := some (.array .byte) }, accessFlags := 9, code := some k9c2 }
def k9c3 : Code := { maxStack := 3, maxLocals := 7, code := jdk_52_method_21_code, exceptionTable := #[], attributes := #[] }
def k9m3 : Method := { name := "compress", desc := "([CI[BII)I", sig := { parameters := [(.array .char), .int, (.array .byte), .int, .int], returnType := some .int }, accessFlags := 9, code := some k9c3 }
/-- java/lang/StringUTF16 -/
def k9 : Class := { plain "java/lang/StringUTF16" (some 0) with
  accessFlags := 48
  interfaces := #[]
  cf := some (fileOf pool9 12 #[.nestMembers #[627, 629, 369]] #[{ accessFlags := 0, nameIndex := 9, descriptorIndex := 10, attributes := #[] }, { accessFlags := 8, nameIndex := 261, descriptorIndex := 262, attributes := #[] }, { accessFlags := 9, nameIndex := 117, descriptorIndex := 122, attributes := #[] }, { accessFlags := 9, nameIndex := 117, descriptorIndex := 118, attributes := #[] }] 48 6 #[] #[{ accessFlags := 26, nameIndex := 61, descriptorIndex := 62, attributes := #[] }, { accessFlags := 26, nameIndex := 65, descriptorIndex := 62, attributes := #[] }, { accessFlags := 24, nameIndex := 430, descriptorIndex := 62, attributes := #[] }, { accessFlags := 4120, nameIndex := 46, descriptorIndex := 47, attributes := #[] }])
  fields := #[{ name := "HI_BYTE_SHIFT", type := .int, accessFlags := 26, slot := 0, constantValue := 0 }, { name := "LO_BYTE_SHIFT", type := .int, accessFlags := 26, slot := 1, constantValue := 0 }, { name := "MAX_LENGTH", type := .int, accessFlags := 24, slot := 2, constantValue := 0 }, { name := "$assertionsDisabled", type := .boolean, accessFlags := 4120, slot := 3, constantValue := 0 }]
  methods := #[k9m0, k9m1, k9m2, k9m3]
  instanceTypes := #[]
  staticTypes := #[.int, .int, .int, .boolean]
  resolved := Array.replicate 635 none
  statics := none }

def pool10 : Array CpInfo := pool [(1, .class_ 2), (0, u "java/lang/String"), (1, .class_ 6), (1, u "java/lang/Object"), (0, u "<init>"), (0, u "()V"), (0, .methodref 1 10), (0, .nameAndType 11 12), (0, u "checkIndex"), (0, u "(II)V"), (1, .class_ 16), (1, u "java/lang/StringLatin1"), (36, u "([BI)C"), (67, u "$assertionsDisabled"), (0, u "Z"), (98, .class_ 223), (1, u "java/lang/StringLatin1$LinesSpliterator"), (28, u "charAt"), (137, .class_ 391), (0, u "java/lang/StringLatin1$CharsSpliterator")] 3

def k10m0 : Method := { name := "<init>", desc := "()V", sig := { parameters := [], returnType := none }, accessFlags := 0, code := none }
def k10c1 : Code := { maxStack := 2, maxLocals := 2, code := jdk_43_method_2_code, exceptionTable := #[], attributes := #[] }
def k10m1 : Method := { name := "charAt", desc := "([BI)C", sig := { parameters := [(.array .byte), .int], returnType := some .char }, accessFlags := 9, code := some k10c1 }
/-- java/lang/StringLatin1 -/
def k10 : Class := { plain "java/lang/StringLatin1" (some 0) with
  accessFlags := 48
  interfaces := #[]
  cf := some (fileOf pool10 14 #[.nestMembers #[390, 221]] #[{ accessFlags := 0, nameIndex := 7, descriptorIndex := 8, attributes := #[] }, { accessFlags := 9, nameIndex := 252, descriptorIndex := 53, attributes := #[] }] 48 4 #[] #[{ accessFlags := 4120, nameIndex := 121, descriptorIndex := 122, attributes := #[] }])
  fields := #[{ name := "$assertionsDisabled", type := .boolean, accessFlags := 4120, slot := 0, constantValue := 0 }]
  methods := #[k10m0, k10m1]
  instanceTypes := #[]
  staticTypes := #[.boolean]
  resolved := Array.replicate 395 none
  statics := none }

def pool11 : Array CpInfo := pool [(2, .class_ 4), (1, u "java/lang/Object"), (0, u "<init>"), (0, u "()V"), (17, .class_ 26), (1, u "jdk/internal/util/Preconditions"), (6, u "checkIndex"), (21, .class_ 56), (0, u "jdk/internal/util/Preconditions$4"), (57, .class_ 115), (0, u "jdk/internal/util/Preconditions$1"), (7, u "SIOOBE_FORMATTER"), (0, u "Ljava/util/function/BiFunction;"), (0, .class_ 126), (0, u "jdk/internal/util/Preconditions$2"), (3, u "AIOOBE_FORMATTER"), (0, .class_ 132), (0, u "jdk/internal/util/Preconditions$3"), (3, u "IOOBE_FORMATTER"), (41, u "(IILjava/util/function/BiFunction;)I")] 15

def k11m0 : Method := { name := "<init>", desc := "()V", sig := { parameters := [], returnType := none }, accessFlags := 1, code := none }
def k11c1 : Code := { maxStack := 3, maxLocals := 3, code := jdk_41_method_11_code, exceptionTable := #[], attributes := #[] }
def k11m1 : Method := { name := "checkIndex", desc := "(IILjava/util/function/BiFunction;)I", sig := { parameters := [.int, .int, (.object "java/util/function/BiFunction")], returnType := some .int }, accessFlags := 9, code := some k11c1 }
/-- jdk/internal/util/Preconditions -/
def k11 : Class := { plain "jdk/internal/util/Preconditions" (some 0) with
  accessFlags := 33
  interfaces := #[]
  cf := some (fileOf pool11 24 #[.nestMembers #[55, 131, 125, 114]] #[{ accessFlags := 1, nameIndex := 5, descriptorIndex := 6, attributes := #[] }, { accessFlags := 9, nameIndex := 33, descriptorIndex := 178, attributes := #[] }] 33 2 #[] #[{ accessFlags := 25, nameIndex := 123, descriptorIndex := 124, attributes := #[] }, { accessFlags := 25, nameIndex := 130, descriptorIndex := 124, attributes := #[] }, { accessFlags := 25, nameIndex := 136, descriptorIndex := 124, attributes := #[] }])
  fields := #[{ name := "SIOOBE_FORMATTER", type := (.object "java/util/function/BiFunction"), accessFlags := 25, slot := 0, constantValue := 0 }, { name := "AIOOBE_FORMATTER", type := (.object "java/util/function/BiFunction"), accessFlags := 25, slot := 1, constantValue := 0 }, { name := "IOOBE_FORMATTER", type := (.object "java/util/function/BiFunction"), accessFlags := 25, slot := 2, constantValue := 0 }]
  methods := #[k11m0, k11m1]
  instanceTypes := #[]
  staticTypes := #[(.object "java/util/function/BiFunction"), (.object "java/util/function/BiFunction"), (.object "java/util/function/BiFunction")]
  resolved := Array.replicate 194 none
  statics := some 1 }

def pool12 : Array CpInfo := pool [(9, u "<init>"), (6, .class_ 18), (1, u "java/lang/Object"), (0, u "()V"), (1, .class_ 23), (1, u "jdk/internal/util/ArraysSupport"), (0, u "LOG2_ARRAY_LONG_INDEX_SCALE"), (0, u "I"), (2, u "U"), (0, u "Ljdk/internal/misc/Unsafe;"), (8, u "BIG_ENDIAN"), (0, u "Z"), (8, u "LOG2_BYTE_BIT_SIZE"), (4, u "LOG2_ARRAY_INT_INDEX_SCALE"), (54, u "JLA"), (0, u "Ljdk/internal/access/JavaLangAccess;"), (11, u "LOG2_ARRAY_BOOLEAN_INDEX_SCALE"), (9, u "LOG2_ARRAY_BYTE_INDEX_SCALE"), (5, u "LOG2_ARRAY_CHAR_INDEX_SCALE"), (5, u "LOG2_ARRAY_SHORT_INDEX_SCALE"), (18, u "LOG2_ARRAY_FLOAT_INDEX_SCALE"), (24, u "LOG2_ARRAY_DOUBLE_INDEX_SCALE"), (89, u "T_BOOLEAN"), (2, u "T_CHAR"), (1, u "T_FLOAT"), (1, u "T_DOUBLE"), (1, u "T_BYTE"), (1, u "T_SHORT"), (1, u "T_INT"), (1, u "T_LONG"), (1, u "SOFT_MAX_ARRAY_LENGTH")] 83

def k12m0 : Method := { name := "<init>", desc := "()V", sig := { parameters := [], returnType := none }, accessFlags := 2, code := none }
/-- jdk/internal/util/ArraysSupport -/
def k12 : Class := { plain "jdk/internal/util/ArraysSupport" (some 0) with
  accessFlags := 33
  interfaces := #[]
  cf := some (fileOf pool12 21 #[] #[{ accessFlags := 2, nameIndex := 9, descriptorIndex := 19, attributes := #[] }] 33 16 #[] #[{ accessFlags := 24, nameIndex := 28, descriptorIndex := 29, attributes := #[] }, { accessFlags := 26, nameIndex := 38, descriptorIndex := 39, attributes := #[] }, { accessFlags := 25, nameIndex := 121, descriptorIndex := 25, attributes := #[] }, { accessFlags := 25, nameIndex := 131, descriptorIndex := 25, attributes := #[] }, { accessFlags := 25, nameIndex := 137, descriptorIndex := 25, attributes := #[] }, { accessFlags := 25, nameIndex := 143, descriptorIndex := 25, attributes := #[] }, { accessFlags := 25, nameIndex := 53, descriptorIndex := 25, attributes := #[] }, { accessFlags := 25, nameIndex := 24, descriptorIndex := 25, attributes := #[] }, { accessFlags := 25, nameIndex := 162, descriptorIndex := 25, attributes := #[] }, { accessFlags := 25, nameIndex := 187, descriptorIndex := 25, attributes := #[] }, { accessFlags := 26, nameIndex := 48, descriptorIndex := 25, attributes := #[] }, { accessFlags := 25, nameIndex := 277, descriptorIndex := 25, attributes := #[] }, { accessFlags := 25, nameIndex := 280, descriptorIndex := 25, attributes := #[] }, { accessFlags := 25, nameIndex := 282, descriptorIndex := 25, attributes := #[] }, { accessFlags := 25, nameIndex := 284, descriptorIndex := 25, attributes := #[] }, { accessFlags := 25, nameIndex := 286, descriptorIndex := 25, attributes := #[] }, { accessFlags := 25, nameIndex := 288, descriptorIndex := 25, attributes := #[] }, { accessFlags := 25, nameIndex := 290, descriptorIndex := 25, attributes := #[] }, { accessFlags := 25, nameIndex := 292, descriptorIndex := 25, attributes := #[] }, { accessFlags := 26, nameIndex := 108, descriptorIndex := 109, attributes := #[] }, { accessFlags := 25, nameIndex := 294, descriptorIndex := 25, attributes := #[] }])
  fields := #[{ name := "U", type := (.object "jdk/internal/misc/Unsafe"), accessFlags := 24, slot := 0, constantValue := 0 }, { name := "BIG_ENDIAN", type := .boolean, accessFlags := 26, slot := 1, constantValue := 0 }, { name := "LOG2_ARRAY_BOOLEAN_INDEX_SCALE", type := .int, accessFlags := 25, slot := 2, constantValue := 0 }, { name := "LOG2_ARRAY_BYTE_INDEX_SCALE", type := .int, accessFlags := 25, slot := 3, constantValue := 0 }, { name := "LOG2_ARRAY_CHAR_INDEX_SCALE", type := .int, accessFlags := 25, slot := 4, constantValue := 0 }, { name := "LOG2_ARRAY_SHORT_INDEX_SCALE", type := .int, accessFlags := 25, slot := 5, constantValue := 0 }, { name := "LOG2_ARRAY_INT_INDEX_SCALE", type := .int, accessFlags := 25, slot := 6, constantValue := 0 }, { name := "LOG2_ARRAY_LONG_INDEX_SCALE", type := .int, accessFlags := 25, slot := 7, constantValue := 0 }, { name := "LOG2_ARRAY_FLOAT_INDEX_SCALE", type := .int, accessFlags := 25, slot := 8, constantValue := 0 }, { name := "LOG2_ARRAY_DOUBLE_INDEX_SCALE", type := .int, accessFlags := 25, slot := 9, constantValue := 0 }, { name := "LOG2_BYTE_BIT_SIZE", type := .int, accessFlags := 26, slot := 10, constantValue := 0 }, { name := "T_BOOLEAN", type := .int, accessFlags := 25, slot := 11, constantValue := 0 }, { name := "T_CHAR", type := .int, accessFlags := 25, slot := 12, constantValue := 0 }, { name := "T_FLOAT", type := .int, accessFlags := 25, slot := 13, constantValue := 0 }, { name := "T_DOUBLE", type := .int, accessFlags := 25, slot := 14, constantValue := 0 }, { name := "T_BYTE", type := .int, accessFlags := 25, slot := 15, constantValue := 0 }, { name := "T_SHORT", type := .int, accessFlags := 25, slot := 16, constantValue := 0 }, { name := "T_INT", type := .int, accessFlags := 25, slot := 17, constantValue := 0 }, { name := "T_LONG", type := .int, accessFlags := 25, slot := 18, constantValue := 0 }, { name := "JLA", type := (.object "jdk/internal/access/JavaLangAccess"), accessFlags := 26, slot := 19, constantValue := 0 }, { name := "SOFT_MAX_ARRAY_LENGTH", type := .int, accessFlags := 25, slot := 20, constantValue := 0 }]
  methods := #[k12m0]
  instanceTypes := #[]
  staticTypes := #[(.object "jdk/internal/misc/Unsafe"), .boolean, .int, .int, .int, .int, .int, .int, .int, .int, .int, .int, .int, .int, .int, .int, .int, .int, .int, (.object "jdk/internal/access/JavaLangAccess"), .int]
  resolved := Array.replicate 378 none
  statics := none }

def pool13 : Array CpInfo := pool [(1, u "java/lang/Cloneable"), (0, .class_ 1), (0, u "java/lang/Object"), (0, .class_ 3)] 3

/-- java/lang/Cloneable -/
def k13 : Class := { plain "java/lang/Cloneable" (some 0) with
  accessFlags := 1537
  interfaces := #[]
  cf := some (fileOf pool13 2 #[] #[] 1537 4 #[] #[])
  fields := #[]
  methods := #[]
  instanceTypes := #[]
  staticTypes := #[]
  resolved := Array.replicate 8 none
  statics := none }

/-- the primitive byte -/
def k14 : Class := { plain "byte" none with kind := .primitive 'B', accessFlags := 0x411 }
/-- [B -/
def k15 : Class := { plain "[B" (some 0) with kind := .array 14 .byte, interfaces := #[13, 2], accessFlags := 1041 }

/-- the primitive char -/
def k16 : Class := { plain "char" none with kind := .primitive 'C', accessFlags := 0x411 }
/-- [C -/
def k17 : Class := { plain "[C" (some 0) with kind := .array 16 .char, interfaces := #[13, 2], accessFlags := 1041 }

/-- the primitive int -/
def k18 : Class := { plain "int" none with kind := .primitive 'I', accessFlags := 0x411 }
/-- [I -/
def k19 : Class := { plain "[I" (some 0) with kind := .array 18 .int, interfaces := #[13, 2], accessFlags := 1041 }

def heap : Heap := #[{ cls := 7, slots := #[.long 0, .int 1, .null, .int 0, .null, .int 0, .int 0], vm := .statics 7 },
  { cls := 11, slots := #[.null, .null, .null], vm := .statics 11 }]
def classes : Array Class := #[k0, k1, k2, k3, k4, k5, k6, k7, k8, k9, k10, k11, k12, k13, k14, k15, k16, k17, k18, k19]
def interned : List (Array UInt16 × Addr) := []
def slotsUsed : Nat := 10
def theMethod : MethodId := ⟨1, 1⟩
def args0 : Array Value := #[.int 5, .int 2, .int 1, .int 66, .int 3, .int 4]
def aboutOver (below : List Frame) : State where
  vm := { classes := classes, interned := interned.toArray }
  heap := heap
  slotsUsed := slotsUsed
  threads := #[{ frames := .invoking theMethod args0 :: below }]
def below0 : List Frame := [.native { method := ⟨0, 0⟩, args := #[] }]
def about1 : State := aboutOver below0
def p0 : Program := .bare "" "" ""
def e0 : Env := launch0.env 0 0 0
theorem w_frames : about1.frames = Frame.invoking theMethod args0 :: below0 := rfl
set_option maxRecDepth 65536 in
theorem w_args : argsFit about1.vm theMethod args0 = true := by decide +kernel
set_option maxRecDepth 65536 in
theorem w_heap : heapFits about1 = true := by decide +kernel
set_option maxRecDepth 65536 in
theorem w_runnable : about1.curStatus? = some .runnable := by decide +kernel
set_option maxRecDepth 65536 in
theorem w_alone : about1.alone = true := by decide +kernel
set_option maxRecDepth 65536 in
theorem w_named : about1.methodNamed? x = some theMethod := by decide +kernel
set_option maxRecDepth 65536 in
theorem w_hears : about1.hears theMethod below0 = true := by decide +kernel
set_option maxRecDepth 65536 in
theorem w_ripe : about1.ripe theMethod args0 below0 = true := by decide +kernel
theorem w_running : about1.status = .running := rfl
set_option maxRecDepth 65536 in
theorem w_room : about1.hasRoom e0.platform room_1 = true :=
  launch0.hasRoom_least _ room_1 (by decide +kernel) (by decide +kernel) (by decide +kernel) (by decide +kernel) (by decide +kernel) (by decide +kernel)
theorem allAtoms_all (ts : List Jvm.Cond) (a : Array Jvm.Value) (st : Jvm.State) : (allAtoms ts).before a st = ts.all (fun c => c.before a st) := by
  induction ts with
  | nil => rfl
  | cons c t ih =>
    show (Jvm.Cond.and c (allAtoms t)).before a st = _
    rw [Jvm.Cond.before_and, ih, List.all_cons]
def words1 : List Jvm.Cond := Jvm.Cond.code x code maxLocals ret :: tables_1
/-- a 'code' word, met by the world's own term for the bytes: nothing is compared byte by byte -/
theorem code_word {y : MethodName} {bytes : ByteArray} {mx : Nat} {rt : Option FieldType} {a : Array Value} {s : State} {m : MethodId} {meth : Method} {c : Code} (h1 : s.methodNamed? y = some m) (h2 : s.vm.method? m = some meth) (h3 : meth.code = some c) (h4 : c.code = bytes)
    (h5 : (c.maxLocals == mx && c.exceptionTable.isEmpty && decide (c.maxStack ≤ mostOperands) && decide (meth.sig.returnType = rt) && !meth.locks && decide (parseMethodDescriptor y.desc = some meth.sig)) = true) : (Jvm.Cond.code y bytes mx rt).before a s = true := by
  simp only [Bool.and_eq_true, beq_iff_eq, Bool.not_eq_true', decide_eq_true_eq] at h5
  obtain ⟨⟨⟨⟨⟨g1, g2⟩, g3⟩, g4⟩, g5⟩, g6⟩ := h5
  simp [Cond.before, Cond.holds, Cond.value, h1, h2, h3, h4, g1, g2, g3, g4, g5, g6]
def isCode : Jvm.Cond → Bool
  | .code _ _ _ _ => true
  | _ => false
theorem all_split {L : List Jvm.Cond} {P : Jvm.Cond → Bool} (h1 : L.all (fun c => isCode c || P c) = true) (h2 : ∀ c ∈ L.filter isCode, P c = true) : L.all P = true := by
  refine List.all_eq_true.mpr fun c hc => ?_
  have h := List.all_eq_true.mp h1 c hc
  rcases Bool.eq_false_or_eq_true (isCode c) with hi | hi
  · exact h2 c (List.mem_filter.mpr ⟨hc, hi⟩)
  · simpa [hi] using h
set_option maxRecDepth 65536 in
theorem w_c0 : (Jvm.Cond.code x code maxLocals ret).before args0 about1 = true := code_word (m := ⟨1, 1⟩) (meth := k1m1) (c := k1c1) (by decide +kernel) rfl rfl rfl (by decide +kernel)
set_option maxRecDepth 65536 in
theorem w_c1 : (Jvm.Cond.code ({ cls := "org/bindery/IriIsAbsolutePinLaw", name := "take", desc := "([CI)Ljava/lang/String;" } : Jvm.MethodName) method_3_code (2 : Nat) (Option.some (Jvm.ClassFile.FieldType.object "java/lang/String"))).before args0 about1 = true := code_word (m := ⟨1, 2⟩) (meth := k1m2) (c := k1c2) (by decide +kernel) rfl rfl rfl (by decide +kernel)
set_option maxRecDepth 65536 in
theorem w_c2 : (Jvm.Cond.code ({ cls := "java/lang/String", name := "<init>", desc := "([C)V" } : Jvm.MethodName) jdk_42_method_3_code (2 : Nat) (Option.none : Option Jvm.ClassFile.FieldType)).before args0 about1 = true := code_word (m := ⟨7, 1⟩) (meth := k7m1) (c := k7c1) (by decide +kernel) rfl rfl rfl (by decide +kernel)
set_option maxRecDepth 65536 in
theorem w_c3 : (Jvm.Cond.code ({ cls := "java/lang/String", name := "<init>", desc := "([CIILjava/lang/Void;)V" } : Jvm.MethodName) jdk_42_method_149_code (6 : Nat) (Option.none : Option Jvm.ClassFile.FieldType)).before args0 about1 = true := code_word (m := ⟨7, 4⟩) (meth := k7m4) (c := k7c4) (by decide +kernel) rfl rfl rfl (by decide +kernel)
set_option maxRecDepth 65536 in
theorem w_c4 : (Jvm.Cond.code ({ cls := "java/lang/Object", name := "<init>", desc := "()V" } : Jvm.MethodName) object_method_1_code (1 : Nat) (Option.none : Option Jvm.ClassFile.FieldType)).before args0 about1 = true := code_word (m := ⟨0, 0⟩) (meth := k0m0) (c := k0c0) (by decide +kernel) rfl rfl rfl (by decide +kernel)
set_option maxRecDepth 65536 in
theorem w_c5 : (Jvm.Cond.code ({ cls := "org/bindery/IriIsAbsolutePinLaw", name := "letterAt", desc := "([CII)Z" } : Jvm.MethodName) method_6_code (3 : Nat) (Option.some Jvm.ClassFile.FieldType.boolean)).before args0 about1 = true := code_word (m := ⟨1, 5⟩) (meth := k1m5) (c := k1c5) (by decide +kernel) rfl rfl rfl (by decide +kernel)
set_option maxRecDepth 65536 in
theorem w_c6 : (Jvm.Cond.code ({ cls := "org/bindery/Iri", name := "isAbsolute", desc := "(Ljava/lang/String;)Z" } : Jvm.MethodName) prog_62_method_2_code (2 : Nat) (Option.some Jvm.ClassFile.FieldType.boolean)).before args0 about1 = true := code_word (m := ⟨8, 1⟩) (meth := k8m1) (c := k8c1) (by decide +kernel) rfl rfl rfl (by decide +kernel)
set_option maxRecDepth 65536 in
theorem w_c7 : (Jvm.Cond.code ({ cls := "java/lang/String", name := "length", desc := "()I" } : Jvm.MethodName) jdk_42_method_54_code (1 : Nat) (Option.some Jvm.ClassFile.FieldType.int)).before args0 about1 = true := code_word (m := ⟨7, 2⟩) (meth := k7m2) (c := k7c2) (by decide +kernel) rfl rfl rfl (by decide +kernel)
set_option maxRecDepth 65536 in
theorem w_c8 : (Jvm.Cond.code ({ cls := "java/lang/String", name := "coder", desc := "()B" } : Jvm.MethodName) jdk_42_method_152_code (1 : Nat) (Option.some Jvm.ClassFile.FieldType.byte)).before args0 about1 = true := code_word (m := ⟨7, 5⟩) (meth := k7m5) (c := k7c5) (by decide +kernel) rfl rfl rfl (by decide +kernel)
set_option maxRecDepth 65536 in
theorem w_c9 : (Jvm.Cond.code ({ cls := "java/lang/StringUTF16", name := "compress", desc := "([CII)[B" } : Jvm.MethodName) jdk_52_method_16_code (6 : Nat) (Option.some (Jvm.ClassFile.FieldType.array Jvm.ClassFile.FieldType.byte))).before args0 about1 = true := code_word (m := ⟨9, 2⟩) (meth := k9m2) (c := k9c2) (by decide +kernel) rfl rfl rfl (by decide +kernel)
set_option maxRecDepth 65536 in
theorem w_c10 : (Jvm.Cond.code ({ cls := "java/lang/StringUTF16", name := "compress", desc := "([CI[BII)I" } : Jvm.MethodName) jdk_52_method_21_code (7 : Nat) (Option.some Jvm.ClassFile.FieldType.int)).before args0 about1 = true := code_word (m := ⟨9, 3⟩) (meth := k9m3) (c := k9c3) (by decide +kernel) rfl rfl rfl (by decide +kernel)
set_option maxRecDepth 65536 in
theorem w_c11 : (Jvm.Cond.code ({ cls := "java/lang/StringUTF16", name := "coderFromArrayLen", desc := "([BI)B" } : Jvm.MethodName) jdk_52_method_15_code (2 : Nat) (Option.some Jvm.ClassFile.FieldType.byte)).before args0 about1 = true := code_word (m := ⟨9, 1⟩) (meth := k9m1) (c := k9c1) (by decide +kernel) rfl rfl rfl (by decide +kernel)
set_option maxRecDepth 65536 in
theorem w_c12 : (Jvm.Cond.code ({ cls := "org/bindery/IriIsAbsolutePinLaw", name := "letter", desc := "(C)Z" } : Jvm.MethodName) method_4_code (1 : Nat) (Option.some Jvm.ClassFile.FieldType.boolean)).before args0 about1 = true := code_word (m := ⟨1, 3⟩) (meth := k1m3) (c := k1c3) (by decide +kernel) rfl rfl rfl (by decide +kernel)
set_option maxRecDepth 65536 in
theorem w_c13 : (Jvm.Cond.code ({ cls := "java/lang/String", name := "charAt", desc := "(I)C" } : Jvm.MethodName) jdk_42_method_56_code (2 : Nat) (Option.some Jvm.ClassFile.FieldType.char)).before args0 about1 = true := code_word (m := ⟨7, 3⟩) (meth := k7m3) (c := k7c3) (by decide +kernel) rfl rfl rfl (by decide +kernel)
set_option maxRecDepth 65536 in
theorem w_c14 : (Jvm.Cond.code ({ cls := "java/lang/String", name := "isLatin1", desc := "()Z" } : Jvm.MethodName) jdk_42_method_154_code (1 : Nat) (Option.some Jvm.ClassFile.FieldType.boolean)).before args0 about1 = true := code_word (m := ⟨7, 6⟩) (meth := k7m6) (c := k7c6) (by decide +kernel) rfl rfl rfl (by decide +kernel)
set_option maxRecDepth 65536 in
theorem w_c15 : (Jvm.Cond.code ({ cls := "java/lang/StringLatin1", name := "charAt", desc := "([BI)C" } : Jvm.MethodName) jdk_43_method_2_code (2 : Nat) (Option.some Jvm.ClassFile.FieldType.char)).before args0 about1 = true := code_word (m := ⟨10, 1⟩) (meth := k10m1) (c := k10c1) (by decide +kernel) rfl rfl rfl (by decide +kernel)
set_option maxRecDepth 65536 in
theorem w_c16 : (Jvm.Cond.code ({ cls := "java/lang/String", name := "checkIndex", desc := "(II)V" } : Jvm.MethodName) jdk_42_method_155_code (2 : Nat) (Option.none : Option Jvm.ClassFile.FieldType)).before args0 about1 = true := code_word (m := ⟨7, 7⟩) (meth := k7m7) (c := k7c7) (by decide +kernel) rfl rfl rfl (by decide +kernel)
set_option maxRecDepth 65536 in
theorem w_c17 : (Jvm.Cond.code ({ cls := "jdk/internal/util/Preconditions", name := "checkIndex", desc := "(IILjava/util/function/BiFunction;)I" } : Jvm.MethodName) jdk_41_method_11_code (3 : Nat) (Option.some Jvm.ClassFile.FieldType.int)).before args0 about1 = true := code_word (m := ⟨11, 1⟩) (meth := k11m1) (c := k11c1) (by decide +kernel) rfl rfl rfl (by decide +kernel)
set_option maxRecDepth 65536 in
theorem w_c18 : (Jvm.Cond.code ({ cls := "org/bindery/Iri", name := "isSchemeCharacter", desc := "(CZ)Z" } : Jvm.MethodName) prog_62_method_3_code (2 : Nat) (Option.some Jvm.ClassFile.FieldType.boolean)).before args0 about1 = true := code_word (m := ⟨8, 2⟩) (meth := k8m2) (c := k8c2) (by decide +kernel) rfl rfl rfl (by decide +kernel)
set_option maxRecDepth 65536 in
theorem w_c19 : (Jvm.Cond.code ({ cls := "org/bindery/IriIsAbsolutePinLaw", name := "colonAt", desc := "([CII)Z" } : Jvm.MethodName) method_8_code (3 : Nat) (Option.some Jvm.ClassFile.FieldType.boolean)).before args0 about1 = true := code_word (m := ⟨1, 7⟩) (meth := k1m7) (c := k1c7) (by decide +kernel) rfl rfl rfl (by decide +kernel)
set_option maxRecDepth 65536 in
theorem w_c20 : (Jvm.Cond.code ({ cls := "org/bindery/IriIsAbsolutePinLaw", name := "laterAt", desc := "([CII)Z" } : Jvm.MethodName) method_7_code (3 : Nat) (Option.some Jvm.ClassFile.FieldType.boolean)).before args0 about1 = true := code_word (m := ⟨1, 6⟩) (meth := k1m6) (c := k1c6) (by decide +kernel) rfl rfl rfl (by decide +kernel)
set_option maxRecDepth 65536 in
theorem w_c21 : (Jvm.Cond.code ({ cls := "org/bindery/IriIsAbsolutePinLaw", name := "later", desc := "(C)Z" } : Jvm.MethodName) method_5_code (1 : Nat) (Option.some Jvm.ClassFile.FieldType.boolean)).before args0 about1 = true := code_word (m := ⟨1, 4⟩) (meth := k1m4) (c := k1c4) (by decide +kernel) rfl rfl rfl (by decide +kernel)
def codes1 : List Jvm.Cond := [Jvm.Cond.code x code maxLocals ret, Jvm.Cond.code ({ cls := "org/bindery/IriIsAbsolutePinLaw", name := "take", desc := "([CI)Ljava/lang/String;" } : Jvm.MethodName) method_3_code (2 : Nat) (Option.some (Jvm.ClassFile.FieldType.object "java/lang/String")), Jvm.Cond.code ({ cls := "java/lang/String", name := "<init>", desc := "([C)V" } : Jvm.MethodName) jdk_42_method_3_code (2 : Nat) (Option.none : Option Jvm.ClassFile.FieldType), Jvm.Cond.code ({ cls := "java/lang/String", name := "<init>", desc := "([CIILjava/lang/Void;)V" } : Jvm.MethodName) jdk_42_method_149_code (6 : Nat) (Option.none : Option Jvm.ClassFile.FieldType), Jvm.Cond.code ({ cls := "java/lang/Object", name := "<init>", desc := "()V" } : Jvm.MethodName) object_method_1_code (1 : Nat) (Option.none : Option Jvm.ClassFile.FieldType), Jvm.Cond.code ({ cls := "org/bindery/IriIsAbsolutePinLaw", name := "letterAt", desc := "([CII)Z" } : Jvm.MethodName) method_6_code (3 : Nat) (Option.some Jvm.ClassFile.FieldType.boolean), Jvm.Cond.code ({ cls := "org/bindery/Iri", name := "isAbsolute", desc := "(Ljava/lang/String;)Z" } : Jvm.MethodName) prog_62_method_2_code (2 : Nat) (Option.some Jvm.ClassFile.FieldType.boolean), Jvm.Cond.code ({ cls := "java/lang/String", name := "length", desc := "()I" } : Jvm.MethodName) jdk_42_method_54_code (1 : Nat) (Option.some Jvm.ClassFile.FieldType.int), Jvm.Cond.code ({ cls := "java/lang/String", name := "coder", desc := "()B" } : Jvm.MethodName) jdk_42_method_152_code (1 : Nat) (Option.some Jvm.ClassFile.FieldType.byte), Jvm.Cond.code ({ cls := "java/lang/StringUTF16", name := "compress", desc := "([CII)[B" } : Jvm.MethodName) jdk_52_method_16_code (6 : Nat) (Option.some (Jvm.ClassFile.FieldType.array Jvm.ClassFile.FieldType.byte)), Jvm.Cond.code ({ cls := "java/lang/StringUTF16", name := "compress", desc := "([CI[BII)I" } : Jvm.MethodName) jdk_52_method_21_code (7 : Nat) (Option.some Jvm.ClassFile.FieldType.int), Jvm.Cond.code ({ cls := "java/lang/StringUTF16", name := "coderFromArrayLen", desc := "([BI)B" } : Jvm.MethodName) jdk_52_method_15_code (2 : Nat) (Option.some Jvm.ClassFile.FieldType.byte), Jvm.Cond.code ({ cls := "org/bindery/IriIsAbsolutePinLaw", name := "letter", desc := "(C)Z" } : Jvm.MethodName) method_4_code (1 : Nat) (Option.some Jvm.ClassFile.FieldType.boolean), Jvm.Cond.code ({ cls := "java/lang/String", name := "charAt", desc := "(I)C" } : Jvm.MethodName) jdk_42_method_56_code (2 : Nat) (Option.some Jvm.ClassFile.FieldType.char), Jvm.Cond.code ({ cls := "java/lang/String", name := "isLatin1", desc := "()Z" } : Jvm.MethodName) jdk_42_method_154_code (1 : Nat) (Option.some Jvm.ClassFile.FieldType.boolean), Jvm.Cond.code ({ cls := "java/lang/StringLatin1", name := "charAt", desc := "([BI)C" } : Jvm.MethodName) jdk_43_method_2_code (2 : Nat) (Option.some Jvm.ClassFile.FieldType.char), Jvm.Cond.code ({ cls := "java/lang/String", name := "checkIndex", desc := "(II)V" } : Jvm.MethodName) jdk_42_method_155_code (2 : Nat) (Option.none : Option Jvm.ClassFile.FieldType), Jvm.Cond.code ({ cls := "jdk/internal/util/Preconditions", name := "checkIndex", desc := "(IILjava/util/function/BiFunction;)I" } : Jvm.MethodName) jdk_41_method_11_code (3 : Nat) (Option.some Jvm.ClassFile.FieldType.int), Jvm.Cond.code ({ cls := "org/bindery/Iri", name := "isSchemeCharacter", desc := "(CZ)Z" } : Jvm.MethodName) prog_62_method_3_code (2 : Nat) (Option.some Jvm.ClassFile.FieldType.boolean), Jvm.Cond.code ({ cls := "org/bindery/IriIsAbsolutePinLaw", name := "colonAt", desc := "([CII)Z" } : Jvm.MethodName) method_8_code (3 : Nat) (Option.some Jvm.ClassFile.FieldType.boolean), Jvm.Cond.code ({ cls := "org/bindery/IriIsAbsolutePinLaw", name := "laterAt", desc := "([CII)Z" } : Jvm.MethodName) method_7_code (3 : Nat) (Option.some Jvm.ClassFile.FieldType.boolean), Jvm.Cond.code ({ cls := "org/bindery/IriIsAbsolutePinLaw", name := "later", desc := "(C)Z" } : Jvm.MethodName) method_5_code (1 : Nat) (Option.some Jvm.ClassFile.FieldType.boolean)]
set_option maxRecDepth 65536 in
theorem codes_eq : words1.filter isCode = codes1 := rfl
theorem w_codes : ∀ c ∈ words1.filter isCode, c.before args0 about1 = true := by
  rw [codes_eq]
  intro c hc
  simp only [codes1, List.mem_cons, List.not_mem_nil, or_false] at hc
  rcases hc with rfl | rfl | rfl | rfl | rfl | rfl | rfl | rfl | rfl | rfl | rfl | rfl | rfl | rfl | rfl | rfl | rfl | rfl | rfl | rfl | rfl | rfl
  · exact w_c0
  · exact w_c1
  · exact w_c2
  · exact w_c3
  · exact w_c4
  · exact w_c5
  · exact w_c6
  · exact w_c7
  · exact w_c8
  · exact w_c9
  · exact w_c10
  · exact w_c11
  · exact w_c12
  · exact w_c13
  · exact w_c14
  · exact w_c15
  · exact w_c16
  · exact w_c17
  · exact w_c18
  · exact w_c19
  · exact w_c20
  · exact w_c21
set_option maxRecDepth 65536 in
theorem w_t1 : (words1.take 24).all (fun c => isCode c || c.before args0 about1) = true := by decide +kernel
set_option maxRecDepth 65536 in
theorem w_t2 : ((words1.drop 24).take 24).all (fun c => isCode c || c.before args0 about1) = true := by decide +kernel
set_option maxRecDepth 65536 in
theorem w_t3 : (((words1.drop 24).drop 24).take 24).all (fun c => isCode c || c.before args0 about1) = true := by decide +kernel
set_option maxRecDepth 65536 in
theorem w_t4 : (((words1.drop 24).drop 24).drop 24).all (fun c => isCode c || c.before args0 about1) = true := by decide +kernel
theorem w_tables : (allAtoms (Jvm.Cond.code x code maxLocals ret :: tables_1)).before args0 about1 = true := by
  rw [allAtoms_all]
  show words1.all (fun c => c.before args0 about1) = true
  refine all_split ?_ w_codes
  rw [← List.take_append_drop 24 words1, List.all_append, w_t1, ← List.take_append_drop 24 (words1.drop 24), List.all_append, w_t2, ← List.take_append_drop 24 ((words1.drop 24).drop 24), List.all_append, w_t3, w_t4]
  rfl
set_option maxRecDepth 65536 in
theorem w_rest : rest_1_c.before args0 about1 = true := by decide +kernel
set_option maxRecDepth 65536 in
theorem w_case : (Jvm.Cond.and given_1 narrow_1).before args0 about1 = true := by decide +kernel
set_option maxRecDepth 65536 in
theorem w_consts : constsHeld consts_1 about1 := Jvm.Lit.constsHeldB_iff.mp (by decide +kernel)
theorem w_applies : (headSpec (Jvm.Cond.code x code maxLocals ret :: tables_1) room_1).applies x e0.platform about1 = true :=
  (Spec.applies_iff w_frames).mpr ⟨w_running, w_runnable, w_alone, w_named, w_hears, w_ripe, w_room, w_tables⟩
theorem atStart : AtStart classFile x code maxLocals ret World_1 tables_1 room_1 Calls_1 rest_1 Pre_1 launch0 p0 e0 about1 theMethod args0 below0 :=
  ⟨lists_1, trivial, launch0.admits_env _ _ _, launch0.least_env, fairChoices_fair.cas, fairChoices_fair.clock, w_frames, w_args, w_heap, w_applies, ⟨w_consts, trivial⟩, w_rest, w_case⟩
end start1
theorem witness_1 : WitnessClaimed_1 := ⟨start1.p0, start1.e0, start1.about1, start1.theMethod, start1.args0, start1.below0, start1.atStart⟩
end Jvm.Pilot.@@N@@
