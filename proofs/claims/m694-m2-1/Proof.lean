import JvmDerived
import JvmDerived.Pilot.@@N@@Statement
import JvmDerived.Pilot.@@N@@Code
set_option linter.unusedVariables false
set_option linter.unusedSimpArgs false
namespace Jvm.RoadKit
open Sem ClassFile Op Lib Jvm.Stand Jvm.Free Jvm.LawKit
section New
variable {p : Program} {l : Launch} {e : Env} {R : Room} {s : State} {m : MethodId} {args : Array Value} {below : List Frame} {meth : Method} {c : Code} {T : State} {locs : List Loc} {cells slots : Nat}
theorem retI (X : Stand p l e R s m args below meth c T locs cells slots) (hx : p.tables.exec = Jvm.exec) {pc : Nat} {Ls : Array Slot} {z : Int32} {rest : List Value} (hret : meth.sig.returnType = some .int) (hd : decode c.code pc = .ok (.ireturn, 1)) {fs : List Frame}
    (hl : ∀ (f : JFrame) (acts : List Action), f.method = m → f.locked = none → f.entered = [] → (doReturn e (T.setTop f) acts (some (.int z))).1 = T.setFrames fs) : Steps p.tables e below (T.setTop (mkF m pc Ls (.int z :: rest))) (T.setFrames fs) := by
  have hm' : T.vm.method? m = some meth := X.method'
  have hn : narrow .int (.int z) = .int z := rfl
  show Steps p.tables e below (T.setTop { method := m, pc := pc, locals := Ls, stack := _ :: rest, locked := none }) _
  jvm_step X.here [X.here.top, hx, hd, hm', hret, hn]
  first | (intro acts; rw [hl _ acts rfl rfl rfl]) | rw [hl _ _ rfl rfl rfl]
  exact Steps.refl _
theorem own_retA (X : Stand p l e R s m args below meth c T locs cells slots) (hx : p.tables.exec = Jvm.exec) {pc : Nat} {Ls : Array Slot} {v : Value} {t : FieldType} {rest : List Value} (hv : v.isRef = true) (hret : meth.sig.returnType = some t) (ht : t.isReference = true) (hd : decode c.code pc = .ok (.areturn, 1)) {fs : List Frame}
    (hl : ∀ (f : JFrame) (acts : List Action), f.method = m → f.locked = none → f.entered = [] → (doReturn e (T.setTop f) acts (some v)).1 = T.setFrames fs) : Steps p.tables e below (T.setTop (mkF m pc Ls (v :: rest))) (T.setFrames fs) := by
  have hm' : T.vm.method? m = some meth := X.method'
  show Steps p.tables e below (T.setTop { method := m, pc := pc, locals := Ls, stack := _ :: rest, locked := none }) _
  jvm_step X.here [X.here.top, hx, hd, hm', hret, hv, ht]
  first | (intro acts; rw [hl _ acts rfl rfl rfl]) | rw [hl _ _ rfl rfl rfl]
  exact Steps.refl _
theorem own_go {tb : Tables} {e : Env} {below : List Frame} {A B : State} {P : State → Outcome → Prop} (k : ∀ t, Steps tb e below B t → Steps tb e below A t) (h : ∃ s₂ o, Steps tb e below B s₂ ∧ P s₂ o) : ∃ s₂ o, Steps tb e below A s₂ ∧ P s₂ o := by
  obtain ⟨t, o, h1, h2⟩ := h
  exact ⟨t, o, k t h1, h2⟩
theorem own_abs {tb : Tables} {e : Env} {below : List Frame} {A : State} {P0 : State → Outcome → Prop} (h : ∀ P : State → Outcome → Prop, (∀ s₂ o, P0 s₂ o → P s₂ o) → ∃ s₂ o, Steps tb e below A s₂ ∧ P s₂ o) : ∃ s₂ o, Steps tb e below A s₂ ∧ P0 s₂ o := h P0 fun _ _ q => q
theorem own_oldsz {Z : State} {n0 : Nat} {h : Heap} (O : Old Z n0 h) : n0 ≤ h.size := O.1 ▸ O.2.1
theorem own_b255 (x : Int32) : ¬ (x &&& (255 : Int32)) < 0 ∧ ¬ (255 : Int32) < (x &&& (255 : Int32)) := by
  have h := c_and x 255 (by decide)
  have e : (255 : Int32).toInt = 255 := rfl
  have e0 : (0 : Int32).toInt = 0 := rfl
  rw [Int32.lt_iff_toInt_lt, Int32.lt_iff_toInt_lt]
  omega
theorem own_nc2 (x : Int32) : nar .char (x.toUInt32.toUInt16.toUInt32.toInt32) = x.toUInt32.toUInt16.toUInt32.toInt32 := by
  show (((x.toUInt32.toUInt16.toUInt32).toInt32).toUInt32).toUInt16.toUInt32.toInt32 = _
  rw [UInt32.toUInt32_toInt32, UInt16.toUInt16_toUInt32]
theorem own_nb2 (x : Int32) : x.toInt8.toInt32.toInt8.toInt32 = x.toInt8.toInt32 := by simp
/-- a String's bytes, of its chars -/
abbrev own_bs (cs : List Int32) : List Value := (cs.map fun c => c.toInt8.toInt32).map Value.int
theorem own_narR {v : Value} {t : FieldType} (hv : v.isRef = true) : narrow t v = v := by cases v <;> simp [Value.isRef] at hv <;> cases t <;> rfl
theorem own_fitR {v : Value} {s : String} (hv : v.isRef = true) : fits (.object s) v = true := by cases v <;> simp [Value.isRef] at hv <;> rfl
end New
end Jvm.RoadKit
/- laws to paste: Road.backV, Road.eqW, Road.codOf (cut by pick.py; bodies as the Statement names them) -/
namespace Jvm.Pilot.@@N@@
namespace StrChars
open Jvm Sem ClassFile Op Lib Jvm.Stand Jvm.Free.XT Jvm.Free.ALB Jvm.Free.JM Jvm.Free
open Jvm.Lib.Cold (StaticIs)
/-- a char array whose places are chars -/
def Ch (a : Addr) (A : Cell) (U : State) : Prop := Arr .char a A U ∧ Typed .char A
theorem Ch.mv {a : Addr} {A : Cell} {U U' : State} (h : Ch a A U) (hal : U.vm.Alike U'.vm) (hh : U'.heap = U.heap) : Ch a A U' := ⟨h.1.mv hal hh, h.2⟩
theorem Ch.keep {a : Addr} {A : Cell} {U U' : State} (h : Ch a A U) (hal : U.vm.Alike U'.vm) (hk : U'.heap[a]? = some A) : Ch a A U' := ⟨h.1.keep hal hk, h.2⟩
/-- what place i of a char[]'s cell holds -/
def cv (A : Cell) (i : Nat) : Int32 := match A.slots[i]? with | some (.int x) => x | _ => 0
theorem Ch.get {a : Addr} {A : Cell} {U : State} (h : Ch a A U) {i : Nat} (hi : i < A.slots.size) : A.slots[i]? = some (.int (cv A i)) := by
  have e := Array.getElem?_eq_getElem hi
  have f := h.2 i _ e
  unfold cv; rw [e]
  generalize A.slots[i] = v at f
  cases v <;> simp [fits] at f ⊢
/-- the byte that i2b leaves of a char -/
def lo8 (x : Int32) : Int32 := x.toInt8.toInt32
theorem fits_lo8 (y : Int32) : fits .byte (.int (lo8 y)) = true := by
  have h1 := y.toInt8.le_toInt
  have h2 := y.toInt8.toInt_lt
  simp only [lo8, fits, Bool.and_eq_true, decide_eq_true_eq, Int32.le_iff_toInt_le, Int8.toInt_toInt32, show (-128 : Int32).toInt = -128 from by decide, show (127 : Int32).toInt = 127 from by decide]
  omega
/-- A' is A but that each place j of lo .. hi - 1 holds f j -/
def Laid (A A' : Cell) (lo hi : Nat) (f : Nat → Value) : Prop := A'.cls = A.cls ∧ A'.vm = A.vm ∧ A'.slots.size = A.slots.size ∧ ∀ i, A'.slots[i]? = if lo ≤ i ∧ i < hi then some (f i) else A.slots[i]?
theorem Laid.zero (A : Cell) (lo : Nat) (f : Nat → Value) : Laid A A lo (lo + 0) f := ⟨rfl, rfl, rfl, fun i => by rw [if_neg (by omega)]⟩
theorem Laid.step {A Ak : Cell} {lo k : Nat} {f : Nat → Value} {v : Value} (h : Laid A Ak lo k f) (hlo : lo ≤ k) (hk : k < Ak.slots.size) (hv : v = f k) : Laid A (Ak.setSlot k v) lo (k + 1) f := by
  refine ⟨h.1, h.2.1, by simpa [Cell.setSlot] using h.2.2.1, fun i => ?_⟩
  by_cases e : k = i
  · subst e; rw [Cell.slots_setSlot_self v hk, if_pos (by omega), hv]
  · rw [Cell.slots_setSlot_ne v e, h.2.2.2 i]
    by_cases q : lo ≤ i ∧ i < k
    · rw [if_pos q, if_pos (by omega)]
    · rw [if_neg q, if_neg (by omega)]
def U16 : String := "java/lang/StringUTF16"
namespace Cmp5
def yN : MethodName := ⟨"java/lang/StringUTF16", "compress", "([CI[BII)I"⟩
abbrev yB : ByteArray := jdk_52_method_21_code
theorem d0 : decode yB 0 = .ok (.iconst 0, 1) := by decide +kernel
theorem d1 : decode yB 1 = .ok (.istore 5, 2) := by decide +kernel
theorem d3 : decode yB 3 = .ok (.iload 5, 2) := by decide +kernel
theorem d5 : decode yB 5 = .ok (.iload 4, 2) := by decide +kernel
theorem d7 : decode yB 7 = .ok (.if_icmp (.ge) 37, 3) := by decide +kernel
theorem d10 : decode yB 10 = .ok (.aload_n 0, 1) := by decide +kernel
theorem d11 : decode yB 11 = .ok (.iload_n 1, 1) := by decide +kernel
theorem d12 : decode yB 12 = .ok (.caload, 1) := by decide +kernel
theorem d13 : decode yB 13 = .ok (.istore 6, 2) := by decide +kernel
theorem d15 : decode yB 15 = .ok (.iload 6, 2) := by decide +kernel
theorem d17 : decode yB 17 = .ok (.sipush 255, 3) := by decide +kernel
theorem d20 : decode yB 20 = .ok (.if_icmp (.le) 6, 3) := by decide +kernel
theorem d26 : decode yB 26 = .ok (.aload_n 2, 1) := by decide +kernel
theorem d27 : decode yB 27 = .ok (.iload_n 3, 1) := by decide +kernel
theorem d28 : decode yB 28 = .ok (.iload 6, 2) := by decide +kernel
theorem d30 : decode yB 30 = .ok (.i2b, 1) := by decide +kernel
theorem d31 : decode yB 31 = .ok (.bastore, 1) := by decide +kernel
theorem d32 : decode yB 32 = .ok (.iinc 1 1, 3) := by decide +kernel
theorem d35 : decode yB 35 = .ok (.iinc 3 1, 3) := by decide +kernel
theorem d38 : decode yB 38 = .ok (.iinc 5 1, 3) := by decide +kernel
theorem d41 : decode yB 41 = .ok (.goto (-38), 3) := by decide +kernel
theorem d44 : decode yB 44 = .ok (.iload 4, 2) := by decide +kernel
theorem d46 : decode yB 46 = .ok (.ireturn, 1) := by decide +kernel
def site : List Cond := []
def tab : Cond := tabOf yN yB 7 (some .int) site
def P (b : Addr) (A : Cell) (d : Addr) (B : Cell) (o q len : Nat) (args : Array Value) (s : State) : Prop := args = #[.ref b, .int (Int32.ofNat o), .ref d, .int (Int32.ofNat q), .int (Int32.ofNat len)] ∧ Ch b A s ∧ Arr .byte d B s ∧ b ≠ d ∧ o + len ≤ A.slots.size ∧ q + len ≤ B.slots.size ∧ ∀ i, i < len → ¬ 255 < cv A (o + i)
def E (b : Addr) (A : Cell) (d : Addr) (B : Cell) (o q len : Nat) (r : Option Value) (s u : State) : Prop := r = some (.int (Int32.ofNat len)) ∧ ∃ B', Put d B' s u ∧ Laid B B' q (q + len) (fun j => Value.int (lo8 (cv A (o + (j - q)))))
/-- no char of the range above 255: len; the places written hold each char's low byte -/
theorem law (l : Launch) (b : Addr) (A : Cell) (d : Addr) (B : Cell) (o q len : Nat) : Law l yN 5 5 0 0 yB 7 (some .int) site (P b A d B o q len) (E b A d B o q len) (copyLocs d q len) 0 0 := by
  refine Law.of_walk (plainFor_of_name (by decide +kernel)) (by decide +kernel) (by decide +kernel) (by decide) (fun _ _ h => by rw [h.1]; rfl) (fun _ U U' hal hh h => ⟨h.1, h.2.1.mv hal hh, h.2.2.1.mv hal hh, h.2.2.2⟩) (fun r U U' V V' h1 hal h2 h => ⟨h.1, h.2.elim fun B' q => ⟨B', q.1.mv h1 h2, q.2⟩⟩) ?_
  intro p e s m args below meth c s₁ X0 hexec hbytes hml hret hlk hnm hown hh0 W hP
  obtain ⟨rfl, hA, hB, hne, l1, l2, hp⟩ := hP
  have c1 : Steps p.tables e below (s₁.setTop (entryFrame m #[.ref b, .int (Int32.ofNat o), .ref d, .int (Int32.ofNat q), .int (Int32.ofNat len)] 7)) (s₁.setTop (mkF m 0 #[.val (.ref b), .val (.int (Int32.ofNat o)), .val (.ref d), .val (.int (Int32.ofNat q)), .val (.int (Int32.ofNat len)), .unset, .unset] [])) := entry rfl
  have hA0 := hA.1.mv X0.warmed.alike hh0
  have hB0 := hB.mv X0.warmed.alike hh0
  have a31 := hA.1.2.2.2
  have c2 : Steps p.tables e below (s₁.setTop (entryFrame m #[.ref b, .int (Int32.ofNat o), .ref d, .int (Int32.ofNat q), .int (Int32.ofNat len)] 7)) (s₁.setTop (mkF m 3 #[.val (.ref b), .val (.int (Int32.ofNat o)), .val (.ref d), .val (.int (Int32.ofNat q)), .val (.int (Int32.ofNat len)), .val (.int 0), .unset] [])) := c1.trans (by
    refine iconstV X0.here hexec rfl 0 (hb hbytes d0) (by decide) ?_
    refine XS.istore X0.here hexec rfl (hb hbytes d1) rfl rfl ?_
    exact Steps.refl _)
  have loop : ∀ (r i : Nat), i + r = len → ∀ (z : Slot), (z = .unset ∨ ∃ w, z = .val w ∧ w.category = 1) → ∀ (Tl : State) (Bk : Cell), Stand p l e { frames := 0, locals := 0, cells := 0, slots := 0 } s m #[.ref b, .int (Int32.ofNat o), .ref d, .int (Int32.ofNat q), .int (Int32.ofNat len)] below meth c Tl ([] ++ copyLocs d q i) 0 0 → Put d Bk s₁ Tl → Laid B Bk q (q + i) (fun j => Value.int (lo8 (cv A (o + (j - q))))) →
      Steps p.tables e below (s₁.setTop (entryFrame m #[.ref b, .int (Int32.ofNat o), .ref d, .int (Int32.ofNat q), .int (Int32.ofNat len)] 7)) (Tl.setTop (mkF m 3 #[.val (.ref b), .val (.int (Int32.ofNat (o + i))), .val (.ref d), .val (.int (Int32.ofNat (q + i))), .val (.int (Int32.ofNat len)), .val (.int (Int32.ofNat i)), z] [])) → ∃ (T' : State) (B' : Cell) (z' : Slot), Stand p l e { frames := 0, locals := 0, cells := 0, slots := 0 } s m #[.ref b, .int (Int32.ofNat o), .ref d, .int (Int32.ofNat q), .int (Int32.ofNat len)] below meth c T' ([] ++ copyLocs d q len) 0 0 ∧ Put d B' s₁ T' ∧ Laid B B' q (q + len) (fun j => Value.int (lo8 (cv A (o + (j - q))))) ∧
      Steps p.tables e below (s₁.setTop (entryFrame m #[.ref b, .int (Int32.ofNat o), .ref d, .int (Int32.ofNat q), .int (Int32.ofNat len)] 7)) (T'.setTop (mkF m 3 #[.val (.ref b), .val (.int (Int32.ofNat (o + len))), .val (.ref d), .val (.int (Int32.ofNat (q + len))), .val (.int (Int32.ofNat len)), .val (.int (Int32.ofNat len)), z'] [])) := by
    intro r
    induction r with
    | zero =>
      intro i hi z hz Tl Bk Xl pl fl cl
      have hil : i = len := by omega
      rw [hil] at Xl fl cl
      exact ⟨Tl, Bk, z, Xl, pl, fl, cl⟩
    | succ r ih =>
      intro i hi z hz Tl Bk Xl pl fl cl
      have all := X0.warmed.alike.symm.trans Xl.warmed.alike
      have hAl := hA0.keep all (pl.other hne hA0.1)
      have hBk := hB0.like all pl.1 fl.1 fl.2.1 fl.2.2.1
      have hlt : q + i < Bk.slots.size := by rw [fl.2.2.1]; omega
      have c3 : Steps p.tables e below (s₁.setTop (entryFrame m #[.ref b, .int (Int32.ofNat o), .ref d, .int (Int32.ofNat q), .int (Int32.ofNat len)] 7)) (Tl.setTop (mkF m 12 #[.val (.ref b), .val (.int (Int32.ofNat (o + i))), .val (.ref d), .val (.int (Int32.ofNat (q + i))), .val (.int (Int32.ofNat len)), .val (.int (Int32.ofNat i)), z] [.int (Int32.ofNat (o + i)), .ref b])) := cl.trans (by
        refine XS.iload Xl.here hexec rfl (hb hbytes d3) rfl ?_
        refine XS.iload Xl.here hexec rfl (hb hbytes d5) rfl ?_
        refine XS.icmpNo Xl.here hexec rfl (hb hbytes d7) rfl (ii_ge_f (lt32 (by omega) (by omega))) ?_
        refine XS.aloadN Xl.here hexec rfl (hb hbytes d10) rfl rfl ?_
        refine XS.iloadN Xl.here hexec rfl (hb hbytes d11) rfl ?_
        exact Steps.refl _)
      have c4 : Steps p.tables e below (s₁.setTop (entryFrame m #[.ref b, .int (Int32.ofNat o), .ref d, .int (Int32.ofNat q), .int (Int32.ofNat len)] 7)) (Tl.setTop (mkF m 13 #[.val (.ref b), .val (.int (Int32.ofNat (o + i))), .val (.ref d), .val (.int (Int32.ofNat (q + i))), .val (.int (Int32.ofNat len)), .val (.int (Int32.ofNat i)), z] [.int (cv A (o + i))])) := c3.trans (by
        refine Xl.aget hexec hAl rfl (hA.get (i := o + i) (by omega)) rfl rfl (hb hbytes d12) ?_
        exact Steps.refl _)
      have c5 : Steps p.tables e below (s₁.setTop (entryFrame m #[.ref b, .int (Int32.ofNat o), .ref d, .int (Int32.ofNat q), .int (Int32.ofNat len)] 7)) (Tl.setTop (mkF m 15 #[.val (.ref b), .val (.int (Int32.ofNat (o + i))), .val (.ref d), .val (.int (Int32.ofNat (q + i))), .val (.int (Int32.ofNat len)), .val (.int (Int32.ofNat i)), .val (.int (cv A (o + i)))] [])) := c4.trans (by
        refine XS.istoreS Xl.here hexec rfl (hb hbytes d13) rfl rfl hz ?_
        exact Steps.refl _)
      have c6 : Steps p.tables e below (s₁.setTop (entryFrame m #[.ref b, .int (Int32.ofNat o), .ref d, .int (Int32.ofNat q), .int (Int32.ofNat len)] 7)) (Tl.setTop (mkF m 31 #[.val (.ref b), .val (.int (Int32.ofNat (o + i))), .val (.ref d), .val (.int (Int32.ofNat (q + i))), .val (.int (Int32.ofNat len)), .val (.int (Int32.ofNat i)), .val (.int (cv A (o + i)))] [.int (lo8 (cv A (o + i))), .int (Int32.ofNat (q + i)), .ref d])) := c5.trans (by
        refine XS.iload Xl.here hexec rfl (hb hbytes d15) rfl ?_
        refine sipushV Xl.here hexec rfl 255 (hb hbytes d17) (by decide) ?_
        refine XS.icmpYes Xl.here hexec rfl (pc0 := 20) rfl (hb hbytes d20) rfl (ii_le_t (hp i (by omega))) (by decide) rfl ?_
        refine XS.aloadN Xl.here hexec rfl (hb hbytes d26) rfl rfl ?_
        refine XS.iloadN Xl.here hexec rfl (hb hbytes d27) rfl ?_
        refine XS.iload Xl.here hexec rfl (hb hbytes d28) rfl ?_
        refine i2b Xl.here hexec rfl (hb hbytes d30) rfl ?_
        exact Steps.refl _)
      obtain ⟨T7, X7, p7, st7⟩ := Xl.aput hexec hBk rfl hlt rfl (fits_lo8 (cv A (o + i))) (g := (mkF m 31 #[.val (.ref b), .val (.int (Int32.ofNat (o + i))), .val (.ref d), .val (.int (Int32.ofNat (q + i))), .val (.int (Int32.ofNat len)), .val (.int (Int32.ofNat i)), .val (.int (cv A (o + i)))] [.int (lo8 (cv A (o + i))), .int (Int32.ofNat (q + i)), .ref d])) rfl (rest := []) rfl (hb hbytes d31)
      have c8 : Steps p.tables e below (s₁.setTop (entryFrame m #[.ref b, .int (Int32.ofNat o), .ref d, .int (Int32.ofNat q), .int (Int32.ofNat len)] 7)) (T7.setTop (mkF m 32 #[.val (.ref b), .val (.int (Int32.ofNat (o + i))), .val (.ref d), .val (.int (Int32.ofNat (q + i))), .val (.int (Int32.ofNat len)), .val (.int (Int32.ofNat i)), .val (.int (cv A (o + i)))] [])) := c6.trans (st7 _ (Steps.refl _))
      have c9 : Steps p.tables e below (s₁.setTop (entryFrame m #[.ref b, .int (Int32.ofNat o), .ref d, .int (Int32.ofNat q), .int (Int32.ofNat len)] 7)) (T7.setTop (mkF m 3 #[.val (.ref b), .val (.int (Int32.ofNat (o + i) + 1)), .val (.ref d), .val (.int (Int32.ofNat (q + i) + 1)), .val (.int (Int32.ofNat len)), .val (.int (Int32.ofNat i + 1)), .val (.int (cv A (o + i)))] [])) := c8.trans (by
        refine iincV X7.here hexec rfl 1 (hb hbytes d32) (by decide) rfl rfl ?_
        refine iincV X7.here hexec rfl 1 (hb hbytes d35) (by decide) rfl rfl ?_
        refine iincV X7.here hexec rfl 1 (hb hbytes d38) (by decide) rfl rfl ?_
        refine XS.goto X7.here hexec rfl (pc0 := 41) rfl (hb hbytes d41) (by decide) rfl ?_
        exact Steps.refl _)
      have c10 : Steps p.tables e below (s₁.setTop (entryFrame m #[.ref b, .int (Int32.ofNat o), .ref d, .int (Int32.ofNat q), .int (Int32.ofNat len)] 7)) (T7.setTop (mkF m 3 #[.val (.ref b), .val (.int (Int32.ofNat (o + (i + 1)))), .val (.ref d), .val (.int (Int32.ofNat (q + (i + 1)))), .val (.int (Int32.ofNat len)), .val (.int (Int32.ofNat (i + 1))), .val (.int (cv A (o + i)))] [])) := by
        have := c9
        rw [succ32, succ32, succ32] at this
        exact this
      exact ih (i + 1) (by omega) _ (Or.inr ⟨_, rfl, rfl⟩) T7 _ (by rw [copyLocs_step, ← List.append_assoc]; exact X7) (pl.trans p7) (fl.step (by omega) hlt (by simp)) c10
  obtain ⟨T9, B9, z9, X9, p9, f9, g9⟩ := loop len 0 (by omega) .unset (Or.inl rfl) s₁ B (by simpa [copyLocs] using X0) ⟨hB0.1, fun _ _ => rfl, rfl⟩ (Laid.zero _ _ _) c2
  have c11 : Steps p.tables e below (s₁.setTop (entryFrame m #[.ref b, .int (Int32.ofNat o), .ref d, .int (Int32.ofNat q), .int (Int32.ofNat len)] 7)) (T9.setTop (mkF m 46 #[.val (.ref b), .val (.int (Int32.ofNat (o + len))), .val (.ref d), .val (.int (Int32.ofNat (q + len))), .val (.int (Int32.ofNat len)), .val (.int (Int32.ofNat len)), z9] [.int (Int32.ofNat len)])) := g9.trans (by
    refine XS.iload X9.here hexec rfl (hb hbytes d3) rfl ?_
    refine XS.iload X9.here hexec rfl (hb hbytes d5) rfl ?_
    refine XS.icmpYes X9.here hexec rfl (pc0 := 7) rfl (hb hbytes d7) rfl (ii_ge_t (nlt32 (by omega) (Nat.le_refl _))) (by decide) rfl ?_
    refine XS.iload X9.here hexec rfl (hb hbytes d44) rfl ?_
    exact Steps.refl _)
  exact ⟨T9, some (.int (Int32.ofNat len)), _, _, _, X9, by simp, rfl, rfl, (fun h => by cases h), ⟨rfl, B9, p9.from hh0, f9⟩, fun fs hl => c11.trans (X9.ireturnOut hexec hret rfl (Or.inl rfl) (hb hbytes d46) hl)⟩
end Cmp5
namespace Cmp3
def yN : MethodName := ⟨"java/lang/StringUTF16", "compress", "([CII)[B"⟩
abbrev yB : ByteArray := jdk_52_method_16_code
theorem d0 : decode yB 0 = .ok (.iload_n 2, 1) := by decide +kernel
theorem d1 : decode yB 1 = .ok (.newarray .byte, 2) := by decide +kernel
theorem d3 : decode yB 3 = .ok (.astore_n 3, 1) := by decide +kernel
theorem d4 : decode yB 4 = .ok (.aload_n 0, 1) := by decide +kernel
theorem d5 : decode yB 5 = .ok (.iload_n 1, 1) := by decide +kernel
theorem d6 : decode yB 6 = .ok (.aload_n 3, 1) := by decide +kernel
theorem d7 : decode yB 7 = .ok (.iconst 0, 1) := by decide +kernel
theorem d8 : decode yB 8 = .ok (.iload_n 2, 1) := by decide +kernel
theorem d9 : decode yB 9 = .ok (.invokestatic 115, 3) := by decide +kernel
theorem d12 : decode yB 12 = .ok (.istore 4, 2) := by decide +kernel
theorem d14 : decode yB 14 = .ok (.iload 4, 2) := by decide +kernel
theorem d16 : decode yB 16 = .ok (.iload_n 2, 1) := by decide +kernel
theorem d17 : decode yB 17 = .ok (.if_icmp (.eq) 40, 3) := by decide +kernel
theorem d57 : decode yB 57 = .ok (.aload_n 3, 1) := by decide +kernel
theorem d58 : decode yB 58 = .ok (.areturn, 1) := by decide +kernel
def site : List Cond := [.arrayClass .byte, Cmp5.tab] ++ staticW U16 115 Cmp5.yN
def tab : Cond := tabOf yN yB 6 (some (.array .byte)) site
def P (b : Addr) (A : Cell) (o len : Nat) (args : Array Value) (s : State) : Prop := args = #[.ref b, .int (Int32.ofNat o), .int (Int32.ofNat len)] ∧ Ch b A s ∧ o + len ≤ A.slots.size ∧ len ≤ 536870912 ∧ ∀ i, i < len → ¬ 255 < cv A (o + i)
def E (b : Addr) (A : Cell) (o len : Nat) (r : Option Value) (s u : State) : Prop := NewArr .byte "[B" len (fun j => .int (lo8 (cv A (o + j)))) r s u ∧ u.heap.size = s.heap.size + 1
/-- no char of the range above 255: a new byte[] of their low bytes -/
theorem law (l : Launch) (b : Addr) (A : Cell) (o len : Nat) : Law l yN 3 3 1 18 yB 6 (some (.array .byte)) site (P b A o len) (E b A o len) [] 1 len := by
  refine Law.of_walk (plainFor_of_name (by decide +kernel)) (by decide +kernel) (by decide +kernel) (by decide) (fun _ _ h => by rw [h.1]; rfl) (fun _ U U' hal hh h => ⟨h.1, h.2.1.mv hal hh, h.2.2⟩) (fun r U U' V V' h1 hal h2 h => ⟨NewArr.mv r U U' V V' h1 hal h2 h.1, by rw [h1, h2]; exact h.2⟩) ?_
  intro p e s m args below meth c s₁ X0 hexec hbytes hml hret hlk hnm hown hh0 W hP
  obtain ⟨rfl, hA, l1, l2, hp⟩ := hP
  have a31 := hA.1.2.2.2
  have c1 : Steps p.tables e below (s₁.setTop (entryFrame m #[.ref b, .int (Int32.ofNat o), .int (Int32.ofNat len)] 6)) (s₁.setTop (mkF m 0 #[.val (.ref b), .val (.int (Int32.ofNat o)), .val (.int (Int32.ofNat len)), .unset, .unset, .unset] [])) := entry rfl
  have c2 : Steps p.tables e below (s₁.setTop (entryFrame m #[.ref b, .int (Int32.ofNat o), .int (Int32.ofNat len)] 6)) (s₁.setTop (mkF m 1 #[.val (.ref b), .val (.int (Int32.ofNat o)), .val (.int (Int32.ofNat len)), .unset, .unset, .unset] [.int (Int32.ofNat len)])) := c1.trans (by
    refine XS.iloadN X0.here hexec rfl (hb hbytes d0) rfl ?_
    exact Steps.refl _)
  obtain ⟨T3, B3, X3, ba3, bs3, bv3, bh3, bf3, st3⟩ := X0.anew hexec (atype := .byte) (wk W (.arrayClass .byte)) rfl (by show len * 1 ≤ _; omega) (by omega) (g := (mkF m 1 #[.val (.ref b), .val (.int (Int32.ofNat o)), .val (.int (Int32.ofNat len)), .unset, .unset, .unset] [.int (Int32.ofNat len)])) rfl (hb hbytes d1) (rest := []) rfl (Nat.le_refl _) (by show 0 + len ≤ len; omega)
  rw [hh0] at ba3 st3
  have kp3 : XT.Kept s T3 := (XT.Kept.of_eq hh0).push bh3
  have hA3 := hA.keep X3.warmed.alike (kp3 _ _ hA.1.1)
  have hne : b ≠ s.heap.size := hA.1.ne
  have c4 : Steps p.tables e below (s₁.setTop (entryFrame m #[.ref b, .int (Int32.ofNat o), .int (Int32.ofNat len)] 6)) (T3.setTop (mkF m 3 #[.val (.ref b), .val (.int (Int32.ofNat o)), .val (.int (Int32.ofNat len)), .unset, .unset, .unset] [.ref s.heap.size])) := c2.trans (st3 _ (Steps.refl _))
  have c5 : Steps p.tables e below (s₁.setTop (entryFrame m #[.ref b, .int (Int32.ofNat o), .int (Int32.ofNat len)] 6)) (T3.setTop (mkF m 9 #[.val (.ref b), .val (.int (Int32.ofNat o)), .val (.int (Int32.ofNat len)), .val (.ref s.heap.size), .unset, .unset] [.int (Int32.ofNat len), .int 0, .ref s.heap.size, .int (Int32.ofNat o), .ref b])) := c4.trans (by
    refine XS.astoreN X3.here hexec rfl (hb hbytes d3) rfl rfl rfl ?_
    refine XS.aloadN X3.here hexec rfl (hb hbytes d4) rfl rfl ?_
    refine XS.iloadN X3.here hexec rfl (hb hbytes d5) rfl ?_
    refine XS.aloadN X3.here hexec rfl (hb hbytes d6) rfl rfl ?_
    refine iconstV X3.here hexec rfl 0 (hb hbytes d7) (by decide) ?_
    refine XS.iloadN X3.here hexec rfl (hb hbytes d8) rfl ?_
    exact Steps.refl _)
  obtain ⟨v6, T6, X6, E6, g6⟩ := X3.callS hexec (Cmp5.law l b A s.heap.size B3 o 0 len) hown (wks W (staticW U16 115 Cmp5.yN)) (wk W Cmp5.tab) (W := 0) (Nat.le_of_ble_eq_true rfl) (Nat.le_of_ble_eq_true rfl) (Nat.le_refl _) (by show 0 + len + 0 ≤ len; omega) (g := (mkF m 9 #[.val (.ref b), .val (.int (Int32.ofNat o)), .val (.int (Int32.ofNat len)), .val (.ref s.heap.size), .unset, .unset] [.int (Int32.ofNat len), .int (Int32.ofNat 0), .ref s.heap.size, .int (Int32.ofNat o), .ref b])) rfl (by rw [hml]; rfl) c5 (argsL := [.ref b, .int (Int32.ofNat o), .ref s.heap.size, .int (Int32.ofNat 0), .int (Int32.ofNat len)]) (rest := []) rfl rfl (by show 2 * 0 + 0 ≤ _; decide) (hb hbytes d9) (⟨rfl, hA3, ba3, hne, l1, by rw [bs3]; simp, hp⟩)
  obtain ⟨rfl, B6, p6, f6⟩ := E6
  have c7 : Steps p.tables e below (s₁.setTop (entryFrame m #[.ref b, .int (Int32.ofNat o), .int (Int32.ofNat len)] 6)) (T6.setTop (mkF m 12 #[.val (.ref b), .val (.int (Int32.ofNat o)), .val (.int (Int32.ofNat len)), .val (.ref s.heap.size), .unset, .unset] [.int (Int32.ofNat len)])) := g6
  have c8 : Steps p.tables e below (s₁.setTop (entryFrame m #[.ref b, .int (Int32.ofNat o), .int (Int32.ofNat len)] 6)) (T6.setTop (mkF m 58 #[.val (.ref b), .val (.int (Int32.ofNat o)), .val (.int (Int32.ofNat len)), .val (.ref s.heap.size), .val (.int (Int32.ofNat len)), .unset] [.ref s.heap.size])) := c7.trans (by
    refine XS.istore X6.here hexec rfl (hb hbytes d12) rfl rfl ?_
    refine XS.iload X6.here hexec rfl (hb hbytes d14) rfl ?_
    refine XS.iloadN X6.here hexec rfl (hb hbytes d16) rfl ?_
    refine XS.icmpYes X6.here hexec rfl (pc0 := 17) rfl (hb hbytes d17) rfl (ii_eq_t rfl) (by decide) rfl ?_
    refine XS.aloadN X6.here hexec rfl (hb hbytes d57) rfl rfl ?_
    exact Steps.refl _)
  have X8 := X6.wide (L' := []) (cells' := 1) (slots' := len) (fun x hx hlt => by
    simp only [List.nil_append, copyLocs, List.mem_map, List.mem_range] at hx
    obtain ⟨i, -, rfl⟩ := hx
    exact absurd hlt (Nat.lt_irrefl _)) (Nat.le_refl _) (by omega)
  exact ⟨T6, some (.ref s.heap.size), _, _, _, X8, rfl, rfl, rfl, (fun h => by cases h), ⟨⟨rfl, B6, ba3.like (X3.warmed.alike.symm.trans X6.warmed.alike) p6.1 f6.1 f6.2.1 f6.2.2.1, f6.2.1.trans bv3, by rw [X6.warmed.alike.findClass, f6.1]; exact bf3, by rw [f6.2.2.1, bs3]; simp, fun j hj => by rw [f6.2.2.2 j, if_pos (by omega)]; rfl, kp3.put p6 (Nat.le_refl _)⟩, by rw [p6.2.2, bh3, hh0]; simp⟩, fun fs hl => c8.trans (X8.areturnOut hexec rfl hret rfl (hb hbytes d58) hl)⟩
end Cmp3
namespace CodL
def yN : MethodName := ⟨"java/lang/StringUTF16", "coderFromArrayLen", "([BI)B"⟩
abbrev yB : ByteArray := jdk_52_method_15_code
theorem d0 : decode yB 0 = .ok (.iload_n 1, 1) := by decide +kernel
theorem d1 : decode yB 1 = .ok (.aload_n 0, 1) := by decide +kernel
theorem d2 : decode yB 2 = .ok (.arraylength, 1) := by decide +kernel
theorem d3 : decode yB 3 = .ok (.isub, 1) := by decide +kernel
theorem d4 : decode yB 4 = .ok (.bipush 31, 2) := by decide +kernel
theorem d6 : decode yB 6 = .ok (.iushr, 1) := by decide +kernel
theorem d7 : decode yB 7 = .ok (.i2b, 1) := by decide +kernel
theorem d8 : decode yB 8 = .ok (.ireturn, 1) := by decide +kernel
def site : List Cond := []
def tab : Cond := tabOf yN yB 2 (some .byte) site
def P (d : Addr) (B : Cell) (args : Array Value) (s : State) : Prop := args = #[.ref d, .int (Int32.ofNat B.slots.size)] ∧ Arr .byte d B s
def E (r : Option Value) (s u : State) : Prop := XT.PureE (some (.int 0)) r s u
/-- an array as long as the number of chars: LATIN1 -/
theorem law (l : Launch) (d : Addr) (B : Cell) : Law l yN 2 2 0 0 yB 2 (some .byte) site (P d B) E [] 0 0 := by
  refine Law.of_walk (plainFor_of_name (by decide +kernel)) (by decide +kernel) (by decide +kernel) (by decide) (fun _ _ h => by rw [h.1]; rfl) (fun _ U U' hal hh h => ⟨h.1, h.2.mv hal hh⟩) (fun r U U' V V' h1 hal h2 h => XT.PureE.mv r U U' V V' h1 hal h2 h) ?_
  intro p e s m args below meth c s₁ X0 hexec hbytes hml hret hlk hnm hown hh0 W hP
  obtain ⟨rfl, hB⟩ := hP
  have hB0 := hB.mv X0.warmed.alike hh0
  have c1 : Steps p.tables e below (s₁.setTop (entryFrame m #[.ref d, .int (Int32.ofNat B.slots.size)] 2)) (s₁.setTop (mkF m 0 #[.val (.ref d), .val (.int (Int32.ofNat B.slots.size))] [])) := entry rfl
  have c2 : Steps p.tables e below (s₁.setTop (entryFrame m #[.ref d, .int (Int32.ofNat B.slots.size)] 2)) (s₁.setTop (mkF m 2 #[.val (.ref d), .val (.int (Int32.ofNat B.slots.size))] [.ref d, .int (Int32.ofNat B.slots.size)])) := c1.trans (by
    refine XS.iloadN X0.here hexec rfl (hb hbytes d0) rfl ?_
    refine XS.aloadN X0.here hexec rfl (hb hbytes d1) rfl rfl ?_
    exact Steps.refl _)
  have c3 : Steps p.tables e below (s₁.setTop (entryFrame m #[.ref d, .int (Int32.ofNat B.slots.size)] 2)) (s₁.setTop (mkF m 8 #[.val (.ref d), .val (.int (Int32.ofNat B.slots.size))] [.int (lo8 (ushr (Int32.ofNat B.slots.size - Int32.ofNat B.slots.size) 31))])) := c2.trans (by
    refine X0.alen hexec hB0 rfl rfl (hb hbytes d2) ?_
    refine XS.isub X0.here hexec rfl (hb hbytes d3) rfl ?_
    refine bipushV X0.here hexec rfl 31 (hb hbytes d4) (by decide) ?_
    refine iushr X0.here hexec rfl (hb hbytes d6) rfl ?_
    refine i2b X0.here hexec rfl (hb hbytes d7) rfl ?_
    exact Steps.refl _)
  have e0 : lo8 (ushr (Int32.ofNat B.slots.size - Int32.ofNat B.slots.size) 31) = 0 := by rw [Int32.sub_self]; decide
  rw [e0] at c3
  exact ⟨s₁, some (.int 0), _, _, _, X0, rfl, rfl, rfl, (fun h => by cases h), ⟨rfl, hh0⟩, fun fs hl => c3.trans (X0.ireturnOut hexec hret rfl (Or.inr (Or.inr (Or.inl rfl))) (hb hbytes d8) hl)⟩
end CodL
/-- the String at a is Latin-1 over a new byte[] (the heap's one new cell): the low bytes of the len chars of A from o on; every cell but a is kept -/
def Got (a : Addr) (D : Cell) (fV fC : Field) (A : Cell) (o len : Nat) (r : Option Value) (s u : State) : Prop := r = none ∧ ∃ D' V : Cell, Blank "java/lang/String" a D' u ∧ Same D D' [fV.slot, fC.slot] ∧ D'.slots[fV.slot]? = some (.ref s.heap.size) ∧ D'.slots[fC.slot]? = some (.int 0) ∧ Arr .byte s.heap.size V u ∧ V.vm = .none ∧ u.vm.findClass "[B" = some V.cls ∧ V.slots.size = len ∧ (∀ j, j < len → V.slots[j]? = some (.int (lo8 (cv A (o + j))))) ∧ (∀ (y : Addr) (c : Cell), y ≠ a → s.heap[y]? = some c → u.heap[y]? = some c) ∧ u.heap.size = s.heap.size + 1
theorem Got.mv {a : Addr} {D A : Cell} {fV fC : Field} {o len : Nat} : ∀ r (U U' V V' : State), U'.heap = U.heap → V.vm.Alike V'.vm → V'.heap = V.heap → Got a D fV fC A o len r U V → Got a D fV fC A o len r U' V' :=
  fun r U U' V V' h1 hal h2 ⟨e0, D', X, a1, a2, a3, a4, a5, a6, a7, a8, a9, a10, a11⟩ => ⟨e0, D', X, a1.mv hal h2, a2, by rw [h1]; exact a3, a4, by rw [h1]; exact a5.mv hal h2, a6, by rw [hal.findClass]; exact a7, a8, a9, by rw [h1, h2]; exact a10, by rw [h1, h2]; exact a11⟩
namespace New4
def yN : MethodName := ⟨"java/lang/String", "<init>", "([CIILjava/lang/Void;)V"⟩
abbrev yB : ByteArray := jdk_42_method_149_code
theorem d0 : decode yB 0 = .ok (.aload_n 0, 1) := by decide +kernel
theorem d1 : decode yB 1 = .ok (.invokespecial 1, 3) := by decide +kernel
theorem d4 : decode yB 4 = .ok (.iload_n 3, 1) := by decide +kernel
theorem d5 : decode yB 5 = .ok (.ifCond (.ne) 22, 3) := by decide +kernel
theorem d27 : decode yB 27 = .ok (.getstatic 38, 3) := by decide +kernel
theorem d30 : decode yB 30 = .ok (.ifCond (.eq) 28, 3) := by decide +kernel
theorem d33 : decode yB 33 = .ok (.aload_n 1, 1) := by decide +kernel
theorem d34 : decode yB 34 = .ok (.iload_n 2, 1) := by decide +kernel
theorem d35 : decode yB 35 = .ok (.iload_n 3, 1) := by decide +kernel
theorem d36 : decode yB 36 = .ok (.invokestatic 177, 3) := by decide +kernel
theorem d39 : decode yB 39 = .ok (.astore 5, 2) := by decide +kernel
theorem d41 : decode yB 41 = .ok (.aload_n 0, 1) := by decide +kernel
theorem d42 : decode yB 42 = .ok (.aload 5, 2) := by decide +kernel
theorem d44 : decode yB 44 = .ok (.iload_n 3, 1) := by decide +kernel
theorem d45 : decode yB 45 = .ok (.invokestatic 47, 3) := by decide +kernel
theorem d48 : decode yB 48 = .ok (.putfield 15, 3) := by decide +kernel
theorem d51 : decode yB 51 = .ok (.aload_n 0, 1) := by decide +kernel
theorem d52 : decode yB 52 = .ok (.aload 5, 2) := by decide +kernel
theorem d54 : decode yB 54 = .ok (.putfield 9, 3) := by decide +kernel
theorem d57 : decode yB 57 = .ok (.return_, 1) := by decide +kernel
def site : List Cond := [.fieldLink "java/lang/String" 38 "java/lang/String" "COMPACT_STRINGS" "Z", Cmp3.tab, CodL.tab, .laysFinal "java/lang/String" "java/lang/String" "value" "[B", .fieldLink "java/lang/String" 9 "java/lang/String" "value" "[B", .laysFinal "java/lang/String" "java/lang/String" "coder" "B", .fieldLink "java/lang/String" 15 "java/lang/String" "coder" "B"] ++ objW "java/lang/String" 1 ++ staticW "java/lang/String" 177 Cmp3.yN ++ staticW "java/lang/String" 47 CodL.yN
def tab : Cond := tabOf yN yB 6 none site
def P (a : Addr) (D : Cell) (fV fC : Field) (b : Addr) (A : Cell) (z : Int32) (o len : Nat) (args : Array Value) (s : State) : Prop := args = #[.ref a, .ref b, .int (Int32.ofNat o), .int (Int32.ofNat len), .null] ∧ Blank "java/lang/String" a D s ∧ Found "java/lang/String" "value" "[B" fV s ∧ Found "java/lang/String" "coder" "B" fC s ∧ Ch b A s ∧ StaticIs s "java/lang/String" "COMPACT_STRINGS" "Z" (.int z) ∧ ¬ z = 0 ∧ 0 < len ∧ o + len ≤ A.slots.size ∧ len ≤ 536870912 ∧ ∀ i, i < len → ¬ 255 < cv A (o + i)
def E (a : Addr) (D : Cell) (fV fC : Field) (A : Cell) (o len : Nat) (r : Option Value) (s u : State) : Prop := Got a D fV fC A o len r s u
/-- len > 0, no char of the range above 255: a Latin-1 String of their low bytes -/
theorem law (l : Launch) (a : Addr) (D : Cell) (fV fC : Field) (b : Addr) (A : Cell) (z : Int32) (o len : Nat) : Law l yN 5 4 2 35 yB 6 none site (P a D fV fC b A z o len) (E a D fV fC A o len) [⟨a, fC.slot⟩, ⟨a, fV.slot⟩] 1 len := by
  refine Law.of_walk (plainFor_of_name (by decide +kernel)) (by decide +kernel) (by decide +kernel) (by decide) (fun _ _ h => by rw [h.1]; rfl) (fun _ U U' hal hh h => ⟨h.1, h.2.1.mv hal hh, h.2.2.1.al hal, h.2.2.2.1.al hal, h.2.2.2.2.1.mv hal hh, h.2.2.2.2.2.1.there hal hh, h.2.2.2.2.2.2⟩) (fun r U U' V V' h1 hal h2 h => Got.mv r U U' V V' h1 hal h2 h) ?_
  intro p e s m args below meth c s₁ X0 hexec hbytes hml hret hlk hnm hown hh0 W hP
  obtain ⟨rfl, hB, f1, f2, hA, s1, hz, l0, l1, l2, hp⟩ := hP
  have a31 := hA.1.2.2.2
  have c1 : Steps p.tables e below (s₁.setTop (entryFrame m #[.ref a, .ref b, .int (Int32.ofNat o), .int (Int32.ofNat len), .null] 6)) (s₁.setTop (mkF m 0 #[.val (.ref a), .val (.ref b), .val (.int (Int32.ofNat o)), .val (.int (Int32.ofNat len)), .val .null, .unset] [])) := entry rfl
  have c2 : Steps p.tables e below (s₁.setTop (entryFrame m #[.ref a, .ref b, .int (Int32.ofNat o), .int (Int32.ofNat len), .null] 6)) (s₁.setTop (mkF m 1 #[.val (.ref a), .val (.ref b), .val (.int (Int32.ofNat o)), .val (.int (Int32.ofNat len)), .val .null, .unset] [.ref a])) := c1.trans (by
    refine XS.aloadN X0.here hexec rfl (hb hbytes d0) rfl rfl ?_
    exact Steps.refl _)
  obtain ⟨T3, X3, q3, st3⟩ := X0.oinit hexec hown (wks W (objW "java/lang/String" 1)) (g := (mkF m 1 #[.val (.ref a), .val (.ref b), .val (.int (Int32.ofNat o)), .val (.int (Int32.ofNat len)), .val .null, .unset] [.ref a])) rfl (by rw [hml]; rfl) (rest := []) rfl (hb hbytes d1) (W := 0) (by show 2 * 0 + 0 ≤ _; decide) (Nat.le_of_ble_eq_true rfl) (Nat.le_of_ble_eq_true rfl)
  have hh3 := q3.trans hh0
  have c4 : Steps p.tables e below (s₁.setTop (entryFrame m #[.ref a, .ref b, .int (Int32.ofNat o), .int (Int32.ofNat len), .null] 6)) (T3.setTop (mkF m 27 #[.val (.ref a), .val (.ref b), .val (.int (Int32.ofNat o)), .val (.int (Int32.ofNat len)), .val .null, .unset] [])) := (c2.trans (st3 _ (Steps.refl _))).trans (by
    refine XS.iloadN X3.here hexec rfl (hb hbytes d4) rfl ?_
    refine XS.ifYes X3.here hexec rfl (pc0 := 5) rfl (hb hbytes d5) rfl (i0_ne_t (nz32 (by omega) l0)) (by decide) rfl ?_
    exact Steps.refl _)
  obtain ⟨T5, X5, q5, st5⟩ := X3.sget hexec hown (wk W (.fieldLink "java/lang/String" 38 "java/lang/String" "COMPACT_STRINGS" "Z")) s1 (fun _ _ h => by rw [hh3]; exact h) (g := (mkF m 27 #[.val (.ref a), .val (.ref b), .val (.int (Int32.ofNat o)), .val (.int (Int32.ofNat len)), .val .null, .unset] [])) rfl (hb hbytes d27)
  have hh5 := q5.trans hh3
  have c6 : Steps p.tables e below (s₁.setTop (entryFrame m #[.ref a, .ref b, .int (Int32.ofNat o), .int (Int32.ofNat len), .null] 6)) (T5.setTop (mkF m 30 #[.val (.ref a), .val (.ref b), .val (.int (Int32.ofNat o)), .val (.int (Int32.ofNat len)), .val .null, .unset] [.int z])) := c4.trans (st5 _ (Steps.refl _))
  have c7 : Steps p.tables e below (s₁.setTop (entryFrame m #[.ref a, .ref b, .int (Int32.ofNat o), .int (Int32.ofNat len), .null] 6)) (T5.setTop (mkF m 36 #[.val (.ref a), .val (.ref b), .val (.int (Int32.ofNat o)), .val (.int (Int32.ofNat len)), .val .null, .unset] [.int (Int32.ofNat len), .int (Int32.ofNat o), .ref b])) := c6.trans (by
    refine XS.ifNo X5.here hexec rfl (hb hbytes d30) rfl (i0_eq_f hz) ?_
    refine XS.aloadN X5.here hexec rfl (hb hbytes d33) rfl rfl ?_
    refine XS.iloadN X5.here hexec rfl (hb hbytes d34) rfl ?_
    refine XS.iloadN X5.here hexec rfl (hb hbytes d35) rfl ?_
    exact Steps.refl _)
  obtain ⟨v8, T8, X8, E8, g8⟩ := X5.callS hexec (Cmp3.law l b A o len) hown (wks W (staticW "java/lang/String" 177 Cmp3.yN)) (wk W Cmp3.tab) (W := 0) (Nat.le_of_ble_eq_true rfl) (Nat.le_of_ble_eq_true rfl) (Nat.le_refl _) (by show 0 + len ≤ len; omega) (g := (mkF m 36 #[.val (.ref a), .val (.ref b), .val (.int (Int32.ofNat o)), .val (.int (Int32.ofNat len)), .val .null, .unset] [.int (Int32.ofNat len), .int (Int32.ofNat o), .ref b])) rfl (by rw [hml]; rfl) c7 (argsL := [.ref b, .int (Int32.ofNat o), .int (Int32.ofNat len)]) (rest := []) rfl rfl (by show 2 * 0 + 0 ≤ _; decide) (hb hbytes d36) (⟨rfl, hA.mv X5.warmed.alike hh5, l1, l2, hp⟩)
  obtain ⟨e8, z8⟩ := E8
  obtain ⟨rfl, N, n1, n2, n3, n4, n5, n6⟩ := NewArr.mv _ T5 s _ _ hh5.symm (Vm.Alike.refl _) rfl e8
  rw [hh5] at z8
  have hB1 := hB.keep X8.warmed.alike (n6 _ _ hB.1)
  have hne : s.heap.size ≠ a := (Nat.ne_of_lt (Array.getElem?_eq_some_iff.mp hB.1).1).symm
  have c9 : Steps p.tables e below (s₁.setTop (entryFrame m #[.ref a, .ref b, .int (Int32.ofNat o), .int (Int32.ofNat len), .null] 6)) (T8.setTop (mkF m 39 #[.val (.ref a), .val (.ref b), .val (.int (Int32.ofNat o)), .val (.int (Int32.ofNat len)), .val .null, .unset] [.ref s.heap.size])) := g8
  have c10 : Steps p.tables e below (s₁.setTop (entryFrame m #[.ref a, .ref b, .int (Int32.ofNat o), .int (Int32.ofNat len), .null] 6)) (T8.setTop (mkF m 45 #[.val (.ref a), .val (.ref b), .val (.int (Int32.ofNat o)), .val (.int (Int32.ofNat len)), .val .null, .val (.ref s.heap.size)] [.int (Int32.ofNat N.slots.size), .ref s.heap.size, .ref a])) := by
    have hc : Steps p.tables e below (s₁.setTop (entryFrame m #[.ref a, .ref b, .int (Int32.ofNat o), .int (Int32.ofNat len), .null] 6)) (T8.setTop (mkF m 45 #[.val (.ref a), .val (.ref b), .val (.int (Int32.ofNat o)), .val (.int (Int32.ofNat len)), .val .null, .val (.ref s.heap.size)] [.int (Int32.ofNat len), .ref s.heap.size, .ref a])) := c9.trans (by
      refine XS.astore X8.here hexec rfl (hb hbytes d39) rfl rfl rfl ?_
      refine XS.aloadN X8.here hexec rfl (hb hbytes d41) rfl rfl ?_
      refine XS.aload X8.here hexec rfl (hb hbytes d42) rfl rfl ?_
      refine XS.iloadN X8.here hexec rfl (hb hbytes d44) rfl ?_
      exact Steps.refl _)
    rw [n4]; exact hc
  obtain ⟨v11, T11, X11, E11, g11⟩ := X8.callS hexec (CodL.law l s.heap.size N) hown (wks W (staticW "java/lang/String" 47 CodL.yN)) (wk W CodL.tab) (W := 1) (Nat.le_of_ble_eq_true rfl) (Nat.le_of_ble_eq_true rfl) (Nat.le_refl _) (by show 0 + len + 0 ≤ len; omega) (g := (mkF m 45 #[.val (.ref a), .val (.ref b), .val (.int (Int32.ofNat o)), .val (.int (Int32.ofNat len)), .val .null, .val (.ref s.heap.size)] [.int (Int32.ofNat N.slots.size), .ref s.heap.size, .ref a])) rfl (by rw [hml]; rfl) c10 (argsL := [.ref s.heap.size, .int (Int32.ofNat N.slots.size)]) (rest := [.ref a]) rfl rfl (by show 2 * 0 + (1 + 0) ≤ _; decide) (hb hbytes d45) (⟨rfl, n1⟩)
  obtain ⟨rfl, q11⟩ := E11
  have hB11 := hB1.mv (X8.warmed.alike.symm.trans X11.warmed.alike) q11
  have c12 : Steps p.tables e below (s₁.setTop (entryFrame m #[.ref a, .ref b, .int (Int32.ofNat o), .int (Int32.ofNat len), .null] 6)) (T11.setTop (mkF m 48 #[.val (.ref a), .val (.ref b), .val (.int (Int32.ofNat o)), .val (.int (Int32.ofNat len)), .val .null, .val (.ref s.heap.size)] [.int 0, .ref a])) := g11
  obtain ⟨T13, X13, p13, bl13, sl13, st13⟩ := X11.finit hexec hown (wk W (.fieldLink "java/lang/String" 15 "java/lang/String" "coder" "B")) (Or.inr ⟨_, (wk W (.laysFinal "java/lang/String" "java/lang/String" "coder" "B"))⟩) (Or.inl ⟨rfl, hnm⟩) f2 (Or.inl rfl) hB11 (t := .byte) (by decide +kernel) rfl (g := (mkF m 48 #[.val (.ref a), .val (.ref b), .val (.int (Int32.ofNat o)), .val (.int (Int32.ofNat len)), .val .null, .val (.ref s.heap.size)] [.int 0, .ref a])) rfl (rest := []) rfl (hb hbytes d48)
  have c14 : Steps p.tables e below (s₁.setTop (entryFrame m #[.ref a, .ref b, .int (Int32.ofNat o), .int (Int32.ofNat len), .null] 6)) (T13.setTop (mkF m 54 #[.val (.ref a), .val (.ref b), .val (.int (Int32.ofNat o)), .val (.int (Int32.ofNat len)), .val .null, .val (.ref s.heap.size)] [.ref s.heap.size, .ref a])) := (c12.trans (st13 _ (Steps.refl _))).trans (by
    refine XS.aloadN X13.here hexec rfl (hb hbytes d51) rfl rfl ?_
    refine XS.aload X13.here hexec rfl (hb hbytes d52) rfl rfl ?_
    exact Steps.refl _)
  obtain ⟨T15, X15, p15, bl15, sl15, st15⟩ := X13.finit hexec hown (wk W (.fieldLink "java/lang/String" 9 "java/lang/String" "value" "[B")) (Or.inr ⟨_, (wk W (.laysFinal "java/lang/String" "java/lang/String" "value" "[B"))⟩) (Or.inl ⟨rfl, hnm⟩) f1 (Or.inl rfl) bl13 (t := (.array .byte)) (by decide +kernel) rfl (g := (mkF m 54 #[.val (.ref a), .val (.ref b), .val (.int (Int32.ofNat o)), .val (.int (Int32.ofNat len)), .val .null, .val (.ref s.heap.size)] [.ref s.heap.size, .ref a])) rfl (rest := []) rfl (hb hbytes d54)
  have c16 : Steps p.tables e below (s₁.setTop (entryFrame m #[.ref a, .ref b, .int (Int32.ofNat o), .int (Int32.ofNat len), .null] 6)) (T15.setTop (mkF m 57 #[.val (.ref a), .val (.ref b), .val (.int (Int32.ofNat o)), .val (.int (Int32.ofNat len)), .val .null, .val (.ref s.heap.size)] [])) := c14.trans (st15 _ (Steps.refl _))
  have ap := apart (Or.inr ⟨_, (wk W (.laysFinal "java/lang/String" "java/lang/String" "value" "[B"))⟩) (Or.inr ⟨_, (wk W (.laysFinal "java/lang/String" "java/lang/String" "coder" "B"))⟩) f1 f2 (t₁ := .array .byte) (t₂ := .byte) (by decide +kernel) (by decide +kernel) (by decide)
  have al := X8.warmed.alike.symm.trans X15.warmed.alike
  have n7 : T11.heap[s.heap.size]? = some N := by rw [q11]; exact n1.1
  exact ⟨T15, none, _, _, _, X15, by simp, rfl, by omega, (fun _ => rfl), ⟨rfl, _, N, bl15, ((Same.refl D _).set _ (by simp)).set _ (by simp), sl15, (Cell.slots_setSlot_ne _ ap).trans sl13, n1.keep al (p15.other hne (p13.other hne n7)), n2, by rw [al.findClass]; exact n3, n4, n5, fun y c h1 h2 => p15.other h1 (p13.other h1 (by rw [q11]; exact n6 y c h2)), by rw [p15.2.2, p13.2.2, q11]; exact z8⟩, fun fs hl => c16.trans (X15.returnOut hexec hret (hb hbytes d57) hl)⟩
end New4
namespace New1
def yN : MethodName := ⟨"java/lang/String", "<init>", "([C)V"⟩
abbrev yB : ByteArray := jdk_42_method_3_code
theorem d0 : decode yB 0 = .ok (.aload_n 0, 1) := by decide +kernel
theorem d1 : decode yB 1 = .ok (.aload_n 1, 1) := by decide +kernel
theorem d2 : decode yB 2 = .ok (.iconst 0, 1) := by decide +kernel
theorem d3 : decode yB 3 = .ok (.aload_n 1, 1) := by decide +kernel
theorem d4 : decode yB 4 = .ok (.arraylength, 1) := by decide +kernel
theorem d5 : decode yB 5 = .ok (.aconst_null, 1) := by decide +kernel
theorem d6 : decode yB 6 = .ok (.invokespecial 27, 3) := by decide +kernel
theorem d9 : decode yB 9 = .ok (.return_, 1) := by decide +kernel
def site : List Cond := [New4.tab] ++ initW "java/lang/String" 27 New4.yN
def tab : Cond := tabOf yN yB 2 none site
def P (a : Addr) (D : Cell) (fV fC : Field) (b : Addr) (A : Cell) (z : Int32) (args : Array Value) (s : State) : Prop := args = #[.ref a, .ref b] ∧ Blank "java/lang/String" a D s ∧ Found "java/lang/String" "value" "[B" fV s ∧ Found "java/lang/String" "coder" "B" fC s ∧ Ch b A s ∧ StaticIs s "java/lang/String" "COMPACT_STRINGS" "Z" (.int z) ∧ ¬ z = 0 ∧ 0 < A.slots.size ∧ A.slots.size ≤ 536870912 ∧ ∀ i, i < A.slots.size → ¬ 255 < cv A i
def E (a : Addr) (D : Cell) (fV fC : Field) (A : Cell) (r : Option Value) (s u : State) : Prop := Got a D fV fC A 0 A.slots.size r s u
/-- new String(chars), not empty, no char above 255: a Latin-1 String of their low bytes -/
theorem law (l : Launch) (a : Addr) (D : Cell) (fV fC : Field) (b : Addr) (A : Cell) (z : Int32) : Law l yN 2 1 3 52 yB 2 none site (P a D fV fC b A z) (E a D fV fC A) [⟨a, fC.slot⟩, ⟨a, fV.slot⟩] 1 A.slots.size := by
  refine Law.of_walk (plainFor_of_name (by decide +kernel)) (by decide +kernel) (by decide +kernel) (by decide) (fun _ _ h => by rw [h.1]; rfl) (fun _ U U' hal hh h => ⟨h.1, h.2.1.mv hal hh, h.2.2.1.al hal, h.2.2.2.1.al hal, h.2.2.2.2.1.mv hal hh, h.2.2.2.2.2.1.there hal hh, h.2.2.2.2.2.2⟩) (fun r U U' V V' h1 hal h2 h => Got.mv r U U' V V' h1 hal h2 h) ?_
  intro p e s m args below meth c s₁ X0 hexec hbytes hml hret hlk hnm hown hh0 W hP
  obtain ⟨rfl, hB, f1, f2, hA, s1, hz, l0, l2, hp⟩ := hP
  have c1 : Steps p.tables e below (s₁.setTop (entryFrame m #[.ref a, .ref b] 2)) (s₁.setTop (mkF m 0 #[.val (.ref a), .val (.ref b)] [])) := entry rfl
  have c2 : Steps p.tables e below (s₁.setTop (entryFrame m #[.ref a, .ref b] 2)) (s₁.setTop (mkF m 6 #[.val (.ref a), .val (.ref b)] [.null, .int (Int32.ofNat A.slots.size), .int 0, .ref b, .ref a])) := c1.trans (by
    refine XS.aloadN X0.here hexec rfl (hb hbytes d0) rfl rfl ?_
    refine XS.aloadN X0.here hexec rfl (hb hbytes d1) rfl rfl ?_
    refine iconstV X0.here hexec rfl 0 (hb hbytes d2) (by decide) ?_
    refine XS.aloadN X0.here hexec rfl (hb hbytes d3) rfl rfl ?_
    refine X0.alen hexec (hA.1.mv X0.warmed.alike hh0) rfl rfl (hb hbytes d4) ?_
    refine XS.aconstNull X0.here hexec rfl (hb hbytes d5) ?_
    exact Steps.refl _)
  obtain ⟨v3, T3, X3, E3, g3⟩ := X0.callN hexec (New4.law l a D fV fC b A z 0 A.slots.size) rfl hown (wks W (initW "java/lang/String" 27 New4.yN)) (W New4.tab (by simp only [site, List.mem_cons, List.mem_append, true_or, or_true])) (W := 0) (Nat.le_of_ble_eq_true rfl) (Nat.le_of_ble_eq_true rfl) (Nat.le_refl _) (by show 0 + A.slots.size ≤ A.slots.size; omega) (g := (mkF m 6 #[.val (.ref a), .val (.ref b)] [.null, .int (Int32.ofNat A.slots.size), .int (Int32.ofNat 0), .ref b, .ref a])) rfl (by rw [hml]; rfl) c2 (argsL := [.ref b, .int (Int32.ofNat 0), .int (Int32.ofNat A.slots.size), .null]) (rest := []) rfl rfl (by show 2 * 0 + 0 ≤ _; decide) (hb hbytes d6) (⟨rfl, hB.mv X0.warmed.alike hh0, f1.al X0.warmed.alike, f2.al X0.warmed.alike, hA.mv X0.warmed.alike hh0, s1.there X0.warmed.alike hh0, hz, l0, by omega, l2, fun i hi => by rw [Nat.zero_add]; exact hp i hi⟩)
  have e0 := Got.mv _ s₁ s _ _ hh0.symm (Vm.Alike.refl _) rfl E3
  obtain rfl := e0.1
  have c4 : Steps p.tables e below (s₁.setTop (entryFrame m #[.ref a, .ref b] 2)) (T3.setTop (mkF m 9 #[.val (.ref a), .val (.ref b)] [])) := g3
  exact ⟨T3, none, _, _, _, X3, by simp, rfl, by omega, (fun _ => rfl), e0, fun fs hl => c4.trans (X3.returnOut hexec hret (hb hbytes d9) hl)⟩
theorem pays {l : Launch} {R : Room} {p : Program} {e : Env} {below : List Frame} {s : State} {sargs : Array Value} {len W : Nat} (a : Addr) (D : Cell) (fV fC : Field) (b : Addr) (A : Cell) (z : Int32) (htab : tab.before sargs s = true) (hfr : 4 ≤ R.frames) (hlo : W + 65 ≤ R.locals) :
    Back l R p e below s sargs yN len W (fun A₁ a₁ => A₁.cells + 1 ≤ R.cells ∧ A₁.slots + A.slots.size ≤ R.slots ∧ P a D fV fC b A z a₁ A₁.U) (fun A₁ _ v₁ B₁ => E a D fV fC A v₁ A₁.U B₁.U ∧ B₁.locs = A₁.locs ++ [⟨a, fC.slot⟩, ⟨a, fV.slot⟩] ∧ B₁.cells = A₁.cells + 1 ∧ B₁.slots = A₁.slots + A.slots.size) :=
  (law l a D fV fC b A z).pays htab hfr (by omega)
end New1
/-- the byte, read back as charAt reads it, is the char -/
theorem lo8_mask {x : Int32} (h0 : ¬ x < 0) (h1 : ¬ 255 < x) : lo8 x &&& 255 = x := by
  have t : ∀ k : Fin 256, lo8 (Int32.ofNat k.val) &&& 255 = Int32.ofNat k.val := by decide +kernel
  rw [Int32.lt_iff_toInt_lt] at h0 h1
  have e0 : (0 : Int32).toInt = 0 := rfl
  have e1 : (255 : Int32).toInt = 255 := rfl
  obtain ⟨k, hk⟩ : ∃ k : Nat, x.toInt = k := ⟨x.toInt.toNat, by omega⟩
  have hx : x = Int32.ofNat k := Int32.toInt_inj.mp (by rw [hk, Int32.toInt_ofNat_small (by omega)])
  rw [hx]
  exact t ⟨k, by omega⟩
end StrChars
namespace StrChars.Road
open Jvm Sem ClassFile Op Lib Jvm.Stand Jvm.Free Jvm.Free.XT
open Jvm.Lib.Cold (StaticIs)
abbrev ST : String := "java/lang/String"
/-- every table word that New1's law asks, flat -/
abbrev words : List Jvm.Cond := [.code New1.yN New1.yB 2 none, .initialized ST, .methodLink ST 27 New4.yN, .instanceMethod New4.yN,
  .code New4.yN New4.yB 6 none, .fieldLink ST 38 ST "COMPACT_STRINGS" "Z", .laysFinal ST ST "value" "[B", .fieldLink ST 9 ST "value" "[B", .laysFinal ST ST "coder" "B", .fieldLink ST 15 ST "coder" "B",
  .methodLink ST 1 Lib.objectInit, .instanceMethod Lib.objectInit, .code Lib.objectInit ⟨#[0xb1]⟩ 1 none, .methodLink ST 177 Cmp3.yN, .static Cmp3.yN, .methodLink ST 47 CodL.yN, .static CodL.yN,
  .code Cmp3.yN Cmp3.yB 6 (some (.array .byte)), .initialized U16, .arrayClass .byte, .methodLink U16 115 Cmp5.yN, .static Cmp5.yN, .code Cmp5.yN Cmp5.yB 7 (some .int), .code CodL.yN CodL.yB 2 (some .byte)]
theorem tab_of {a : Array Value} {s : State} (h : ∀ w ∈ words, w.before a s = true) : New1.tab.before a s = true := by
  have h5 : Cmp5.tab.before a s = true := unparts (wk h (.code Cmp5.yN Cmp5.yB 7 (some .int))) (wks h (.initialized Cmp5.yN.cls :: Cmp5.site))
  have hc : CodL.tab.before a s = true := unparts (wk h (.code CodL.yN CodL.yB 2 (some .byte))) (wks h (.initialized CodL.yN.cls :: CodL.site))
  have q5 : ∀ w ∈ Cmp5.tab :: words, w.before a s = true := fun w hw => (List.mem_cons.mp hw).elim (fun e => e ▸ h5) (h w)
  have h3 : Cmp3.tab.before a s = true := unparts (wk q5 (.code Cmp3.yN Cmp3.yB 6 (some (.array .byte)))) (wks q5 (.initialized Cmp3.yN.cls :: Cmp3.site))
  have q3 : ∀ w ∈ Cmp3.tab :: CodL.tab :: words, w.before a s = true := fun w hw => (List.mem_cons.mp hw).elim (fun e => e ▸ h3) fun hw => (List.mem_cons.mp hw).elim (fun e => e ▸ hc) (h w)
  have h4 : New4.tab.before a s = true := unparts (wk q3 (.code New4.yN New4.yB 6 none)) (wks q3 (.initialized New4.yN.cls :: New4.site))
  have q4 : ∀ w ∈ New4.tab :: words, w.before a s = true := fun w hw => (List.mem_cons.mp hw).elim (fun e => e ▸ h4) (h w)
  exact unparts (wk q4 (.code New1.yN New1.yB 2 none)) (wks q4 (.initialized New1.yN.cls :: New1.site))
/-- the words ride from the start Z to the walk's own state -/
theorem moved {Z s : State} {a0 args : Array Value} (hZ : Z.Warmed39 s.vm) (hw : ∀ d ∈ words, d.before a0 Z = true) : ∀ d ∈ words, d.before args s = true := fun d hd => by
  have q := hw d hd
  have t : ∀ d ∈ words, d = .arrayClass .byte ∨ (d.onTables && d.keepsFace) = true := by decide +kernel
  rcases t d hd with rfl | t
  · exact RoadKit.mvA hZ q
  · exact RoadKit.mv hZ q t
/-- WHAT COMES BACK, over the tables of the start Z: h the heap at the call, h' behind it -/
def Q (Z : State) (x : Addr) (A : Cell) (h : Heap) (v : Option Value) (h' : Heap) (L : List Loc) : Prop := v = none ∧ (∀ y ∈ L, y.base = x) ∧ RoadKit.Keep h h' [x] ∧ h'.size = h.size + 1 ∧ RoadKit.Exa Z h' x ST ∧ RoadKit.Fld Z h' x ST "value" "[B" (.ref h.size) ∧ RoadKit.Fld Z h' x ST "coder" "B" (.int 0) ∧
  (∃ V : Cell, RoadKit.Arr Z h' h.size V .byte ∧ V.vm = .none ∧ Z.vm.findClass "[B" = some V.cls ∧ V.slots.size = A.slots.size ∧ ∀ j, j < A.slots.size → V.slots[j]? = some (.int (lo8 (cv A j)))) ∧
  ∀ (O n d : String) (w : Value), RoadKit.Fld Z h x O n d w → RoadKit.slotOf Z O n d ≠ RoadKit.slotOf Z ST "value" "[B" → RoadKit.slotOf Z O n d ≠ RoadKit.slotOf Z ST "coder" "B" → RoadKit.Fld Z h' x O n d w
/-- **new String(chars) AT A CALL, IN THE ROAD'S FORM**: for specialBack behind newO: x the fresh String, b the char[] with the cell A -/
theorem back {p : Program} {l : Launch} {e : Env} {R : Room} {s : State} {args : Array Value} {below : List Frame} {len W : Nat} {Z : State} {a0 : Array Value} {h : Heap} (hZ : Z.Warmed39 s.vm) (hw : ∀ d ∈ words, d.before a0 Z = true) {kI : Nat} (wi : (Jvm.Cond.instantiable ST kI).before a0 Z = true)
    {x b : Addr} {A : Cell} {z : Int32} {v0 c0 : Value} (E : RoadKit.Exa Z h x ST) (V : RoadKit.Fld Z h x ST "value" "[B" v0) (C : RoadKit.Fld Z h x ST "coder" "B" c0) (K : RoadKit.Arr Z h b A .char) (hty : Typed .char A) (S : RoadKit.Sta Z h ST "COMPACT_STRINGS" "Z" (.int z)) (hz : ¬ z = 0)
    (l0 : 0 < A.slots.size) (l2 : A.slots.size ≤ 536870912) (hp : ∀ i, i < A.slots.size → ¬ 255 < cv A i) (hfr : 4 ≤ R.frames) (hlo : W + 65 ≤ R.locals) :
    Back l R p e below s args New1.yN len W (fun P a => a = #[.ref x, .ref b] ∧ P.U.heap = h ∧ P.cells + 1 ≤ R.cells ∧ P.slots + A.slots.size ≤ R.slots)
      (fun P _ v B => ∃ L, Q Z x A h v B.U.heap L ∧ B.locs = P.locs ++ L ∧ B.cells = P.cells + 1 ∧ B.slots = P.slots + A.slots.size) := by
  intro m meth c P g ig mk a X hg hsize hdg hW hn hp'
  obtain ⟨rfl, rfl, r1, r2⟩ := hp'
  have al : Z.vm.Alike P.U.vm := hZ.alike.trans X.warmed.alike
  obtain ⟨D, cfV, kV, iV, fV, hD, gV, stV, knV, obV, asV, slV⟩ := id V
  obtain ⟨D', cfC, kC, iC, fC, hD', gC, stC, -, -, asC, slC⟩ := id C
  cases hD.symm.trans hD'
  obtain ⟨D2, kD, e1, e2, e3, e4, e5⟩ := id E
  cases hD.symm.trans e1
  obtain ⟨c2, k2, i1, i2, i3, -⟩ := Cond.instantiable_spec wi
  cases e2.symm.trans i1
  cases e3.symm.trans i2
  obtain ⟨kU, u1, u2⟩ := al.2.2 _ _ e3
  have hB : Blank ST x D P.U := ⟨hD, ⟨knV, fun q hq => by rw [hq] at obV; cases obV⟩, by rw [al.findClass]; exact e2, kU, u1, by rw [u2]; exact i3, by rw [u2]; exact e5 i3⟩
  have F1 : Found ST "value" "[B" fV P.U := ⟨SBG.found_only al ⟨cfV, kV, iV, gV⟩, stV⟩
  have F2 : Found ST "coder" "B" fC P.U := ⟨SBG.found_only al ⟨cfC, kC, iC, gC⟩, stC⟩
  have hA : Ch b A P.U := ⟨⟨K.1, State.isArrayOf_alike al K.2.1, K.2.2, by omega⟩, hty⟩
  have hS : StaticIs P.U ST "COMPACT_STRINGS" "Z" (.int z) := by
    obtain ⟨cfS, iS, kS, fS, st, cS, t1, t2, t3, t4, t5, t6, t7⟩ := S
    exact StaticIs.there (s := { Z with heap := P.U.heap }) ⟨cfS, iS, kS, fS, st, cS, t1, t2, t3, t4, t5, (fun q => by rw [q] at t6; cases t6), t7⟩ al rfl
  obtain ⟨v, B, X', ⟨⟨hv, E', V', q1, q2, q3, q4, q5, q6, q7, q8, q9, q10, q11⟩, hl, hc, hs⟩, st⟩ := New1.pays x D fV fC b A z (tab_of (moved hZ hw)) hfr hlo m meth c P g ig mk _ X hg hsize hdg hW hn ⟨r1, r2, rfl, hB, F1, F2, hA, hS, hz, l0, l2, hp⟩
  have al' : Z.vm.Alike B.U.vm := hZ.alike.trans X'.warmed.alike
  have hsz : E'.slots.size = D.slots.size := by
    obtain ⟨-, -, -, kB, w1, w2, w3⟩ := q1
    obtain ⟨kB', y1, y2⟩ := al'.2.2 _ _ e3
    rw [q2.2.1] at w1
    cases w1.symm.trans y1
    rw [w3, e5 i3, y2]
  refine ⟨v, B, X', ⟨_, ⟨hv, ?_, ⟨by omega, fun y cy hy hn' => q10 y cy (by simpa using hn') hy, fun y cy hy => ?_⟩, q11, ⟨E', _, q1.1, by rw [q2.2.1]; exact e2, by rw [q2.2.1]; exact e3, by rw [q2.1]; exact obV, fun _ => by rw [hsz]; exact e5 i3⟩,
    ⟨E', cfV, kV, iV, fV, q1.1, gV, stV, by rw [q2.1]; exact knV, by rw [q2.1]; exact obV, by rw [q2.2.1]; exact asV, q3⟩, ⟨E', cfC, kC, iC, fC, q1.1, gC, stC, by rw [q2.1]; exact knV, by rw [q2.1]; exact obV, by rw [q2.2.1]; exact asC, q4⟩,
    ⟨V', ⟨q5.1, State.isArrayOf_alike al'.symm q5.2.1, q5.2.2.1⟩, q6, by rw [← al'.findClass]; exact q7, q8, fun j hj => by have := q9 j hj; rwa [Nat.zero_add] at this⟩, fun O n d w F n1 n2 => ?_⟩, hl, hc, hs⟩, st⟩
  · intro y hy
    simp only [List.mem_cons, List.not_mem_nil, or_false] at hy
    rcases hy with rfl | rfl <;> rfl
  · by_cases q : y = x
    · subst q
      cases hD.symm.trans hy
      exact ⟨E', q1.1, q2.2.1, q2.1, hsz⟩
    · exact ⟨cy, q10 y cy q hy, rfl, rfl, rfl⟩
  · obtain ⟨D3, cf, k, i, f, g1, g2, g3, g4, g5, g6, g7⟩ := F
    cases hD.symm.trans g1
    simp only [RoadKit.slotOf, g2, gV, gC, Option.map_some, Option.getD_some] at n1 n2
    exact ⟨E', cf, k, i, f, q1.1, g2, g3, by rw [q2.1]; exact g4, by rw [q2.1]; exact g5, by rw [q2.2.1]; exact g6, by rw [q2.2.2 f.slot (by simp [n1, n2])]; exact g7⟩
end StrChars.Road
namespace StrChars.Road
open Jvm Sem ClassFile Op Lib Jvm.Stand Jvm.Free Jvm.Free.XT
/-- WHAT COMES BACK, the byte[] as a list of values -/
def QA (Z : State) (x : Addr) (zn : Int32) (cs : List Int32) (h : Heap) (v : Option Value) (h' : Heap) (L : List Loc) : Prop := v = none ∧ (∀ y ∈ L, y.base = x) ∧ RoadKit.Keep h h' [x] ∧ h'.size = h.size + 1 ∧ RoadKit.Exa Z h' x ST ∧ RoadKit.Fld Z h' x ST "value" "[B" (.ref h.size) ∧ RoadKit.Fld Z h' x ST "coder" "B" (.int 0) ∧
  (∃ kb, Z.vm.findClass "[B" = some kb ∧ RoadKit.Arv Z h' h.size kb .byte zn (cs.map fun c => .int (lo8 c)) (.int 0)) ∧
  ∀ (O n d : String) (w : Value), RoadKit.Fld Z h x O n d w → RoadKit.slotOf Z O n d ≠ RoadKit.slotOf Z ST "value" "[B" → RoadKit.slotOf Z O n d ≠ RoadKit.slotOf Z ST "coder" "B" → RoadKit.Fld Z h' x O n d w
/-- **new String(chars) AT A CALL, THE ARRAYS AS LISTS**: the char[] at b holds cs, not empty, no char above 255 -/
theorem backArv {p : Program} {l : Launch} {e : Env} {R : Room} {s : State} {args : Array Value} {below : List Frame} {len W : Nat} {Z : State} {a0 : Array Value} {h : Heap} (hZ : Z.Warmed39 s.vm) (hw : ∀ d ∈ words, d.before a0 Z = true) {kI : Nat} (wi : (Jvm.Cond.instantiable ST kI).before a0 Z = true)
    {x b : Addr} {k : ClassId} {zn z : Int32} {cs : List Int32} {dv v0 c0 : Value} (E : RoadKit.Exa Z h x ST) (V : RoadKit.Fld Z h x ST "value" "[B" v0) (C : RoadKit.Fld Z h x ST "coder" "B" c0) (K : RoadKit.Arv Z h b k .char zn (cs.map Value.int) dv) (S : RoadKit.Sta Z h ST "COMPACT_STRINGS" "Z" (.int z)) (hz : ¬ z = 0)
    (hlen : zn.toNatClampNeg = cs.length) (h0 : 0 < cs.length) (hbig : cs.length ≤ 536870912) (hall : ∀ c ∈ cs, ¬ 255 < c) (hfr : 4 ≤ R.frames) (hlo : W + 65 ≤ R.locals) :
    Back l R p e below s args New1.yN len W (fun P a => a = #[.ref x, .ref b] ∧ P.U.heap = h ∧ P.cells + 1 ≤ R.cells ∧ P.slots + cs.length ≤ R.slots)
      (fun P _ v B => ∃ L, QA Z x zn cs h v B.U.heap L ∧ B.locs = P.locs ++ L ∧ B.cells = P.cells + 1 ∧ B.slots = P.slots + cs.length) := by
  obtain ⟨A, K1, K2, K3, K4, K5, K6⟩ := K
  have e : A.slots.size = cs.length := K3.trans hlen
  have hat : ∀ (i : Nat) (hi : i < cs.length), A.slots[i]? = some (.int cs[i]) := fun i hi => by rw [K5 i (by omega)]; simp [List.getD_eq_getElem?_getD, hi]
  have hcv : ∀ (i : Nat) (hi : i < cs.length), cv A i = cs[i] := fun i hi => by unfold cv; rw [hat i hi]
  have hty : Typed .char A := fun i v hv => by
    have hi : i < A.slots.size := (Array.getElem?_eq_some_iff.mp hv).1
    have q := K5 i hi
    rw [hv] at q
    rw [Option.some.inj q]
    exact K6 i hi
  refine Back.mono (back hZ hw wi E V C K1 hty S hz (by omega) (by omega) (fun i hi => by rw [hcv i (by omega)]; exact hall _ (List.getElem_mem _)) hfr hlo) (fun P a hp => ⟨hp.1, hp.2.1, hp.2.2.1, by rw [e]; exact hp.2.2.2⟩) (fun P a v B hp hq => ?_)
  obtain ⟨L, ⟨q1, q2, q3, q4, q5, q6, q7, ⟨V', v1, v2, v3, v4, v5⟩, q9⟩, hl, hc, hs⟩ := hq
  refine ⟨L, ⟨q1, q2, q3, q4, q5, q6, q7, ⟨V'.cls, v3, V', v1, rfl, by rw [v4, e, hlen], K4, fun i hi => ?_, fun i hi => ?_⟩, q9⟩, hl, hc, by rw [hs, e]⟩
  · have hi' : i < cs.length := by omega
    rw [v5 i (by omega), hcv i hi']; simp [List.getD_eq_getElem?_getD, hi']
  · have hi' : i < cs.length := by omega
    simp only [List.getD_eq_getElem?_getD, List.getElem?_map, List.getElem?_eq_getElem hi', Option.map_some, Option.getD_some]
    exact fits_lo8 _
end StrChars.Road
namespace StrChars.Road
open Jvm Sem ClassFile Op Lib Jvm.Stand Jvm.Free Jvm.Free.XT
/-- WHAT COMES BACK, in the writer's own shape -/
def QV (Z : State) (x : Addr) (N : Int32) (bs : List Int32) (h : Heap) (n0 : Nat) (v : Option Value) (h' : Heap) (L : List Loc) : Prop := v = none ∧ RoadKit.Fr n0 L ∧ RoadKit.Keep h h' [x] ∧ RoadKit.Exa Z h' x ST ∧ RoadKit.Fld Z h' x ST "coder" "B" (.int 0) ∧
  ∃ (t : Addr) (kb : ClassId), n0 ≤ t ∧ h.size ≤ t ∧ ¬ t = x ∧ RoadKit.Fld Z h' x ST "value" "[B" (.ref t) ∧ RoadKit.Arv Z h' t kb .byte N (bs.map Value.int) (.int 0)
/-- **new String(chars) AT A CALL, FOR THE WRITER**: a char[] of n known ints, each 0 to 255 -/
theorem backV {p : Program} {l : Launch} {e : Env} {R : Room} {s : State} {args : Array Value} {below : List Frame} {len W : Nat} {Z : State} {a0 : Array Value} {h : Heap} (hZ : Z.Warmed39 s.vm) (hw : ∀ d ∈ words, d.before a0 Z = true) {kI : Nat} (wi : (Jvm.Cond.instantiable ST kI).before a0 Z = true)
    {x b : Addr} {kC : ClassId} {cs bs : List Int32} {d v0 c0 : Value} {z N : Int32} {n n0 : Nat} (hx0 : n0 ≤ x) (hh0 : n0 ≤ h.size) (E : RoadKit.Exa Z h x ST) (V : RoadKit.Fld Z h x ST "value" "[B" v0) (C : RoadKit.Fld Z h x ST "coder" "B" c0) (K : RoadKit.Arv Z h b kC .char N (cs.map Value.int) d) (S : RoadKit.Sta Z h ST "COMPACT_STRINGS" "Z" (.int z)) (hz : ¬ z = 0)
    (hn : cs.length = n) (hN : N = Int32.ofNat n) (l0 : 0 < n) (l2 : n ≤ 4000) (hp : ∀ c ∈ cs, ¬ c < 0 ∧ ¬ (255 : Int32) < c) (hb : bs = cs.map (fun c => c.toInt8.toInt32)) (hfr : 4 ≤ R.frames) (hlo : W + 65 ≤ R.locals) :
    Back l R p e below s args (⟨"java/lang/String", "<init>", "([C)V"⟩ : MethodName) len W (fun P a => a = #[.ref x, .ref b] ∧ P.U.heap = h ∧ P.cells + 1 ≤ R.cells ∧ P.slots + n ≤ R.slots)
      (fun P _ v B => ∃ L, QV Z x N bs h n0 v B.U.heap L ∧ B.locs = P.locs ++ L ∧ B.cells = P.cells + 1 ∧ B.slots = P.slots + n) := by
  subst hn hN hb
  refine Back.mono (backArv hZ hw wi E V C K S hz (n32 (by omega)) l0 (by omega) (fun c hc => (hp c hc).2) hfr hlo) (fun P a hp => hp) (fun P a v B hp hq => ?_)
  obtain ⟨L, ⟨q1, q2, q3, q4, q5, q6, q7, ⟨kb, v1, v2⟩, q9⟩, hl, hc, hs⟩ := hq
  exact ⟨L, ⟨q1, fun y hy => by rw [q2 y hy]; exact hx0, q3, q5, q7, h.size, kb, hh0, Nat.le_refl _, Nat.ne_of_gt E.lt, q6, by rw [List.map_map]; exact v2⟩, hl, hc, hs⟩
end StrChars.Road
namespace StrChars
open Jvm Sem ClassFile Op Lib Jvm.Stand Jvm.Free.XT Jvm.Free.ALB Jvm.Free.JM Jvm.Free
open Jvm.Lib.Cold (StaticIs)
def hi8 (x : Int32) : Int32 := lo8 (x >>> ((8 : Int32) &&& 31))
/-- what StringUTF16.getChar makes of two bytes -/
def pairCh (u v : Int32) : Int32 := (((u &&& 255) <<< ((0 : Int32) &&& 31)) ||| ((v &&& 255) <<< ((8 : Int32) &&& 31))).toUInt32.toUInt16.toUInt32.toInt32
theorem lo8_and (x : Int32) : (lo8 x &&& 255).toBitVec.toNat = x.toBitVec.toNat % 256 := by
  have h : (lo8 x).toBitVec = (x.toBitVec.signExtend 8).signExtend 32 := by rw [lo8, Int8.toBitVec_toInt32, Int32.toBitVec_toInt8]
  rw [Int32.toBitVec_and, BitVec.toNat_and, h]
  have e : ((x.toBitVec.signExtend 8).signExtend 32).toNat % 256 = x.toBitVec.toNat % 256 := by
    rw [BitVec.toNat_signExtend]
    have hlt := x.toBitVec.isLt
    simp only [BitVec.toNat_setWidth, BitVec.toNat_signExtend]
    split <;> split <;> omega
  rw [← e]
  exact Nat.and_two_pow_sub_one_eq_mod _ 8
theorem pair_says {c : Int32} (h0 : ¬ c < 0) (h1 : ¬ 65535 < c) : pairCh (lo8 c) (hi8 c) = c := by
  rw [Int32.lt_iff_toInt_lt] at h0 h1
  have e0 : (0 : Int32).toInt = 0 := rfl
  have e1 : (65535 : Int32).toInt = 65535 := rfl
  have hc : c.toInt = c.toBitVec.toNat := by
    have := c.toBitVec.isLt
    have e : c.toInt = c.toBitVec.toInt := rfl
    rw [e] at h0 h1
    rw [e]
    rw [BitVec.toInt_eq_toNat_cond] at h0 h1 ⊢
    split at h0 <;> split <;> omega
  have hn : c.toBitVec.toNat < 65536 := by omega
  have a1 := lo8_and c
  have a2 : (hi8 c &&& 255).toBitVec.toNat = c.toBitVec.toNat / 256 := by
    rw [hi8, lo8_and]
    have e : ((8 : Int32) &&& 31) = 8 := by decide
    rw [e, Int32.toBitVec_shiftRight]
    have e2 : ((8 : Int32).toBitVec.smod 32) = 8#32 := by decide
    rw [e2, BitVec.sshiftRight_eq', BitVec.toNat_sshiftRight_of_msb_false (by rw [BitVec.msb_eq_false_iff_two_mul_lt]; omega)]
    show c.toBitVec.toNat >>> 8 % 256 = _
    rw [Nat.shiftRight_eq_div_pow]
    omega
  unfold pairCh
  apply Int32.toBitVec_inj.mp
  apply BitVec.eq_of_toNat_eq
  have f0 : ((0 : Int32) &&& 31) = 0 := by decide
  have f8 : ((8 : Int32) &&& 31) = 8 := by decide
  rw [f0, f8]
  have g : (((lo8 c &&& 255) <<< (0 : Int32)) ||| ((hi8 c &&& 255) <<< (8 : Int32))).toBitVec.toNat = c.toBitVec.toNat := by
    rw [Int32.toBitVec_or, Int32.toBitVec_shiftLeft, Int32.toBitVec_shiftLeft]
    have s0 : ((0 : Int32).toBitVec.smod 32) = 0#32 := by decide
    have s8 : ((8 : Int32).toBitVec.smod 32) = 8#32 := by decide
    rw [s0, s8, BitVec.toNat_or]
    simp only [BitVec.shiftLeft_eq', BitVec.toNat_shiftLeft, a1, a2]
    show (c.toBitVec.toNat % 256) <<< 0 % 2 ^ 32 ||| (c.toBitVec.toNat / 256) <<< 8 % 2 ^ 32 = _
    rw [Nat.shiftLeft_zero, Nat.mod_eq_of_lt (show c.toBitVec.toNat % 256 < 2 ^ 32 by omega), Nat.mod_eq_of_lt (show (c.toBitVec.toNat / 256) <<< 8 < 2 ^ 32 by rw [Nat.shiftLeft_eq]; omega), Nat.or_comm, ← Nat.shiftLeft_add_eq_or_of_lt (by omega), Nat.shiftLeft_eq]
    omega
  show BitVec.toNat (((((lo8 c &&& 255) <<< (0 : Int32)) ||| ((hi8 c &&& 255) <<< (8 : Int32))).toBitVec.setWidth 16).setWidth 32) = _
  rw [BitVec.toNat_setWidth, BitVec.toNat_setWidth, g]
  omega
end StrChars
namespace StrChars
open Jvm Sem ClassFile Op Lib Jvm.Stand Jvm.Free.XT Jvm.Free.ALB Jvm.Free.JM Jvm.Free
open Jvm.Lib.Cold (StaticIs)
/-- the array's cell V codes the n chars f 0 .. f (n - 1) by the coder cd, as the JDK does: coder 1 just where some char is above 255 -/
def Cod (cd : Int32) (n : Nat) (f : Nat → Int32) (V : Cell) : Prop := (cd = 0 ∧ V.slots.size = n ∧ ∀ j, j < n → V.slots[j]? = some (.int (lo8 (f j))) ∧ ¬ 255 < f j) ∨ (cd = 1 ∧ V.slots.size = 2 * n ∧ (∀ j, j < n → V.slots[2 * j]? = some (.int (lo8 (f j))) ∧ V.slots[2 * j + 1]? = some (.int (hi8 (f j)))) ∧ ∃ j, j < n ∧ 255 < f j)
/-- **x is a String of the n chars f 0 .. f (n - 1)**, Latin-1 or UTF-16; its array at t has the cell V -/
def Txt (x t : Addr) (V : Cell) (cd : Int32) (n : Nat) (f : Nat → Int32) (U : State) : Prop := Exact "java/lang/String" x U ∧ Has x "java/lang/String" "value" "[B" (.ref t) U ∧ Has x "java/lang/String" "coder" "B" (.int cd) U ∧ XT.Arr .byte t V U ∧ Cod cd n f V ∧ ∀ j, j < n → ¬ f j < 0 ∧ ¬ 65535 < f j
theorem Txt.mv {x t : Addr} {V : Cell} {cd : Int32} {n : Nat} {f : Nat → Int32} {U U' : State} (h : Txt x t V cd n f U) (hal : U.vm.Alike U'.vm) (hh : U'.heap = U.heap) : Txt x t V cd n f U' := ⟨h.1.mv hal hh, h.2.1.mv hal hh, h.2.2.1.mv hal hh, h.2.2.2.1.mv hal hh, h.2.2.2.2⟩
end StrChars
namespace StrChars.Road
open Jvm Sem ClassFile Op Lib Jvm.Stand Jvm.Free Jvm.Free.XT
open Jvm.Lib.Cold (StaticIs)
theorem consq {a : Array Value} {s : State} {c : Jvm.Cond} {L : List Jvm.Cond} (h0 : c.before a s = true) (h : ∀ w ∈ L, w.before a s = true) : ∀ w ∈ c :: L, w.before a s = true := fun w hw => (List.mem_cons.mp hw).elim (fun e => e ▸ h0) (h w)
/-- the bytes of the chars cs, low before high -/
def wideBytes : List Int32 → List Value
  | [] => []
  | c :: cs => .int (lo8 c) :: .int (hi8 c) :: wideBytes cs
theorem wide_lo (d : Value) : ∀ (cs : List Int32) (j : Nat), j < cs.length → (wideBytes cs).getD (2 * j) d = .int (lo8 (cs.getD j 0))
  | [], j, h => absurd h (Nat.not_lt_zero j)
  | c :: cs, 0, _ => rfl
  | c :: cs, j + 1, h => by
    have q := wide_lo d cs j (by simpa using h)
    rw [show 2 * (j + 1) = 2 * j + 1 + 1 from by omega]
    simpa [wideBytes] using q
theorem wide_hi (d : Value) : ∀ (cs : List Int32) (j : Nat), j < cs.length → (wideBytes cs).getD (2 * j + 1) d = .int (hi8 (cs.getD j 0))
  | [], j, h => absurd h (Nat.not_lt_zero j)
  | c :: cs, 0, _ => rfl
  | c :: cs, j + 1, h => by
    have q := wide_hi d cs j (by simpa using h)
    rw [show 2 * (j + 1) + 1 = 2 * j + 1 + 1 + 1 from by omega]
    simpa [wideBytes] using q
theorem low_at (d : Value) (cs : List Int32) (j : Nat) (h : j < cs.length) : (cs.map fun c => Value.int (lo8 c)).getD j d = .int (lo8 (cs.getD j 0)) := by
  simp [List.getD_eq_getElem?_getD, h]
/-- an array of N2 bytes vs codes the chars cs by the coder cd -/
def CodA (cs : List Int32) (cd N2 : Int32) (vs : List Value) : Prop := (cd = 0 ∧ N2 = Int32.ofNat cs.length ∧ vs = (cs.map fun c => Value.int (lo8 c)) ∧ ∀ c ∈ cs, ¬ 255 < c) ∨ (cd = 1 ∧ N2 = Int32.ofNat (2 * cs.length) ∧ vs = wideBytes cs ∧ ∃ c ∈ cs, 255 < c)
theorem CodA.cod {cs : List Int32} {cd N2 : Int32} {vs : List Value} {V : Cell} (h : CodA cs cd N2 vs) (hn : 2 * cs.length < 2 ^ 31) (hs : V.slots.size = N2.toNatClampNeg) (hv : RoadKit.Has V vs (.int 0)) : Cod cd cs.length (fun j => cs.getD j 0) V := by
  rcases h with ⟨rfl, rfl, rfl, h⟩ | ⟨rfl, rfl, rfl, c, hc, hw⟩
  · rw [n32 (by omega)] at hs
    exact Or.inl ⟨rfl, hs, fun j hj => ⟨by rw [hv j (by omega), low_at _ _ _ hj], by
      have e : cs.getD j 0 = cs[j] := by simp [List.getD_eq_getElem?_getD, hj]
      show ¬ 255 < cs.getD j 0
      rw [e]; exact h _ (List.getElem_mem _)⟩⟩
  · rw [n32 (by omega)] at hs
    obtain ⟨j, hj, rfl⟩ := List.getElem_of_mem hc
    exact Or.inr ⟨rfl, hs, fun j hj => ⟨by rw [hv _ (by omega), wide_lo _ _ _ hj], by rw [hv _ (by omega), wide_hi _ _ _ hj]⟩, j, hj, by
      have e : cs.getD j 0 = cs[j] := by simp [List.getD_eq_getElem?_getD, hj]
      show 255 < cs.getD j 0
      rw [e]; exact hw⟩
/-- an object of exactly java/lang/String, its two fields found: as the laws ask it -/
theorem strObj {Z U : State} {a0 : Array Value} {kI : Nat} (wi : (Jvm.Cond.instantiable ST kI).before a0 Z = true) (al : Z.vm.Alike U.vm) {x : Addr} {v0 c0 : Value} (E : RoadKit.Exa Z U.heap x ST) (V : RoadKit.Fld Z U.heap x ST "value" "[B" v0) (C : RoadKit.Fld Z U.heap x ST "coder" "B" c0) :
    ∃ (D : Cell) (fV fC : Field), Blank ST x D U ∧ Found ST "value" "[B" fV U ∧ Found ST "coder" "B" fC U ∧ D.slots[fV.slot]? = some v0 ∧ D.slots[fC.slot]? = some c0 ∧ RoadKit.slotOf Z ST "value" "[B" = fV.slot ∧ RoadKit.slotOf Z ST "coder" "B" = fC.slot := by
  obtain ⟨D, cfV, kV, iV, fV, hD, gV, stV, knV, obV, asV, slV⟩ := V
  obtain ⟨D', cfC, kC, iC, fC, hD', gC, stC, -, -, asC, slC⟩ := C
  cases hD.symm.trans hD'
  obtain ⟨D2, kD, e1, e2, e3, e4, e5⟩ := E
  cases hD.symm.trans e1
  obtain ⟨c2, k2, i1, i2, i3, -⟩ := Cond.instantiable_spec wi
  cases e2.symm.trans i1
  cases e3.symm.trans i2
  obtain ⟨kU, u1, u2⟩ := al.2.2 _ _ e3
  exact ⟨D, fV, fC, ⟨hD, ⟨knV, fun q hq => by rw [hq] at obV; cases obV⟩, by rw [al.findClass]; exact e2, kU, u1, by rw [u2]; exact i3, by rw [u2]; exact e5 i3⟩, ⟨SBG.found_only al ⟨cfV, kV, iV, gV⟩, stV⟩, ⟨SBG.found_only al ⟨cfC, kC, iC, gC⟩, stC⟩, slV, slC, by simp [RoadKit.slotOf, gV], by simp [RoadKit.slotOf, gC]⟩
theorem sta_is {Z U : State} (al : Z.vm.Alike U.vm) {C n d : String} {v : Value} (S : RoadKit.Sta Z U.heap C n d v) : StaticIs U C n d v := by
  obtain ⟨cfS, iS, kS, fS, st, cS, t1, t2, t3, t4, t5, t6, t7⟩ := S
  exact StaticIs.there (s := { Z with heap := U.heap }) ⟨cfS, iS, kS, fS, st, cS, t1, t2, t3, t4, t5, (fun q => by rw [q] at t6; cases t6), t7⟩ al rfl
end StrChars.Road
namespace StrChars
open Jvm Sem ClassFile Op Lib Jvm.Stand Jvm.Free.XT Jvm.Free.ALB Jvm.Free.JM Jvm.Free
open Jvm.Lib.Cold (StaticIs)
/-- what place i of a byte[]'s cell holds -/
def yv (A : Cell) (i : Nat) : Int32 := match A.slots[i]? with | some (.int x) => x | _ => 0
theorem yv_get {a : Addr} {A : Cell} {U : State} (h : XT.Arr .byte a A U) (ht : Typed .byte A) {i : Nat} (hi : i < A.slots.size) : A.slots[i]? = some (.int (yv A i)) := by
  have e := Array.getElem?_eq_getElem hi
  have f := ht i _ e
  unfold yv; rw [e]
  generalize A.slots[i] = v at f
  cases v <;> simp [fits] at f ⊢
/-- the two arrays are equal, place for place -/
def EqC (A B : Cell) : Prop := A.slots.size = B.slots.size ∧ ∀ i, i < A.slots.size → yv A i = yv B i
/-- a boolean that says whether p -/
def Says01 (q : Prop) (r : Option Value) (s u : State) : Prop := ∃ v : Int32, r = some (.int v) ∧ u.heap = s.heap ∧ ((v = 1 ∧ q) ∨ (v = 0 ∧ ¬ q))
theorem Says01.mv {q : Prop} : ∀ r (U U' V V' : State), U'.heap = U.heap → V.vm.Alike V'.vm → V'.heap = V.heap → Says01 q r U V → Says01 q r U' V' :=
  fun r U U' V V' h1 _ h2 ⟨v, a, b, c⟩ => ⟨v, a, by rw [h1, h2]; exact b, c⟩
namespace LEq
def yN : MethodName := ⟨"java/lang/StringLatin1", "equals", "([B[B)Z"⟩
abbrev yB : ByteArray := jdk_43_method_13_code
theorem d0 : decode yB 0 = .ok (.aload_n 0, 1) := by decide +kernel
theorem d1 : decode yB 1 = .ok (.arraylength, 1) := by decide +kernel
theorem d2 : decode yB 2 = .ok (.aload_n 1, 1) := by decide +kernel
theorem d3 : decode yB 3 = .ok (.arraylength, 1) := by decide +kernel
theorem d4 : decode yB 4 = .ok (.if_icmp (.ne) 30, 3) := by decide +kernel
theorem d7 : decode yB 7 = .ok (.iconst 0, 1) := by decide +kernel
theorem d8 : decode yB 8 = .ok (.istore_n 2, 1) := by decide +kernel
theorem d9 : decode yB 9 = .ok (.iload_n 2, 1) := by decide +kernel
theorem d10 : decode yB 10 = .ok (.aload_n 0, 1) := by decide +kernel
theorem d11 : decode yB 11 = .ok (.arraylength, 1) := by decide +kernel
theorem d12 : decode yB 12 = .ok (.if_icmp (.ge) 20, 3) := by decide +kernel
theorem d15 : decode yB 15 = .ok (.aload_n 0, 1) := by decide +kernel
theorem d16 : decode yB 16 = .ok (.iload_n 2, 1) := by decide +kernel
theorem d17 : decode yB 17 = .ok (.baload, 1) := by decide +kernel
theorem d18 : decode yB 18 = .ok (.aload_n 1, 1) := by decide +kernel
theorem d19 : decode yB 19 = .ok (.iload_n 2, 1) := by decide +kernel
theorem d20 : decode yB 20 = .ok (.baload, 1) := by decide +kernel
theorem d21 : decode yB 21 = .ok (.if_icmp (.eq) 5, 3) := by decide +kernel
theorem d24 : decode yB 24 = .ok (.iconst 0, 1) := by decide +kernel
theorem d25 : decode yB 25 = .ok (.ireturn, 1) := by decide +kernel
theorem d26 : decode yB 26 = .ok (.iinc 2 1, 3) := by decide +kernel
theorem d29 : decode yB 29 = .ok (.goto (-20), 3) := by decide +kernel
theorem d32 : decode yB 32 = .ok (.iconst 1, 1) := by decide +kernel
theorem d33 : decode yB 33 = .ok (.ireturn, 1) := by decide +kernel
theorem d34 : decode yB 34 = .ok (.iconst 0, 1) := by decide +kernel
theorem d35 : decode yB 35 = .ok (.ireturn, 1) := by decide +kernel
def site : List Cond := []
def tab : Cond := tabOf yN yB 3 (some .boolean) site
def P (a : Addr) (A : Cell) (b : Addr) (B : Cell) (args : Array Value) (s : State) : Prop := args = #[.ref a, .ref b] ∧ XT.Arr .byte a A s ∧ Typed .byte A ∧ XT.Arr .byte b B s ∧ Typed .byte B
/-- whether two byte[] are equal, place for place -/
theorem law (l : Launch) (a : Addr) (A : Cell) (b : Addr) (B : Cell) : Law l yN 2 2 0 0 yB 3 (some .boolean) site (P a A b B) (Says01 (EqC A B)) [] 0 0 := by
  refine Law.of_walk (plainFor_of_name (by decide +kernel)) (by decide +kernel) (by decide +kernel) (by decide) (fun _ _ h => by rw [h.1]; rfl) (fun _ U U' hal hh h => ⟨h.1, h.2.1.mv hal hh, h.2.2.1, h.2.2.2.1.mv hal hh, h.2.2.2.2⟩) (fun r U U' V V' h1 hal h2 h => Says01.mv r U U' V V' h1 hal h2 h) ?_
  intro p e s m args below meth c s₁ X0 hexec hbytes hml hret hlk hnm hown hh0 W hP
  obtain ⟨rfl, hA, tA, hB, tB⟩ := hP
  have a31 := hA.2.2.2
  have b31 := hB.2.2.2
  have hA0 := hA.mv X0.warmed.alike hh0
  have hB0 := hB.mv X0.warmed.alike hh0
  have c1 : Steps p.tables e below (s₁.setTop (entryFrame m #[.ref a, .ref b] 3)) (s₁.setTop (mkF m 0 #[.val (.ref a), .val (.ref b), .unset] [])) := entry rfl
  have c2 : Steps p.tables e below (s₁.setTop (entryFrame m #[.ref a, .ref b] 3)) (s₁.setTop (mkF m 4 #[.val (.ref a), .val (.ref b), .unset] [.int (Int32.ofNat B.slots.size), .int (Int32.ofNat A.slots.size)])) := c1.trans (by
    refine XS.aloadN X0.here hexec rfl (hb hbytes d0) rfl rfl ?_
    refine X0.alen hexec hA0 rfl rfl (hb hbytes d1) ?_
    refine XS.aloadN X0.here hexec rfl (hb hbytes d2) rfl rfl ?_
    refine X0.alen hexec hB0 rfl rfl (hb hbytes d3) ?_
    exact Steps.refl _)
  by_cases hs : A.slots.size = B.slots.size
  · have c3 : Steps p.tables e below (s₁.setTop (entryFrame m #[.ref a, .ref b] 3)) (s₁.setTop (mkF m 9 #[.val (.ref a), .val (.ref b), .val (.int 0)] [])) := c2.trans (by
      refine XS.icmpNo X0.here hexec rfl (hb hbytes d4) rfl (ii_ne_f (by rw [hs])) ?_
      refine iconstV X0.here hexec rfl 0 (hb hbytes d7) (by decide) ?_
      refine XS.istoreN X0.here hexec rfl (hb hbytes d8) rfl rfl ?_
      exact Steps.refl _)
    have loop : ∀ (r i : Nat), i + r = A.slots.size → (∀ j, j < i → yv A j = yv B j) → Steps p.tables e below (s₁.setTop (entryFrame m #[.ref a, .ref b] 3)) (s₁.setTop (mkF m 9 #[.val (.ref a), .val (.ref b), .val (.int (Int32.ofNat i))] [])) → ∃ (pc : Nat) (Ls : Array Slot) (v : Int32), (pc = 25 ∨ pc = 33) ∧ ((v = 1 ∧ EqC A B) ∨ (v = 0 ∧ ¬ EqC A B)) ∧ Steps p.tables e below (s₁.setTop (entryFrame m #[.ref a, .ref b] 3)) (s₁.setTop (mkF m pc Ls [.int v])) := by
      intro r
      induction r with
      | zero =>
        intro i hi he cl
        exact ⟨33, _, 1, Or.inr rfl, Or.inl ⟨rfl, hs, fun j hj => he j (by omega)⟩, cl.trans (by
          refine XS.iloadN X0.here hexec rfl (hb hbytes d9) rfl ?_
          refine XS.aloadN X0.here hexec rfl (hb hbytes d10) rfl rfl ?_
          refine X0.alen hexec hA0 rfl rfl (hb hbytes d11) ?_
          refine XS.icmpYes X0.here hexec rfl (pc0 := 12) rfl (hb hbytes d12) rfl (ii_ge_t (nlt32 (by omega) (by omega))) (by decide) rfl ?_
          refine iconstV X0.here hexec rfl 1 (hb hbytes d32) (by decide) ?_
          exact Steps.refl _)⟩
      | succ r ih =>
        intro i hi he cl
        have c4 : Steps p.tables e below (s₁.setTop (entryFrame m #[.ref a, .ref b] 3)) (s₁.setTop (mkF m 21 #[.val (.ref a), .val (.ref b), .val (.int (Int32.ofNat i))] [.int (yv B i), .int (yv A i)])) := cl.trans (by
          refine XS.iloadN X0.here hexec rfl (hb hbytes d9) rfl ?_
          refine XS.aloadN X0.here hexec rfl (hb hbytes d10) rfl rfl ?_
          refine X0.alen hexec hA0 rfl rfl (hb hbytes d11) ?_
          refine XS.icmpNo X0.here hexec rfl (hb hbytes d12) rfl (ii_ge_f (lt32 (by omega) (by omega))) ?_
          refine XS.aloadN X0.here hexec rfl (hb hbytes d15) rfl rfl ?_
          refine XS.iloadN X0.here hexec rfl (hb hbytes d16) rfl ?_
          refine X0.aget hexec hA0 rfl (yv_get hA tA (i := i) (by omega)) rfl rfl (hb hbytes d17) ?_
          refine XS.aloadN X0.here hexec rfl (hb hbytes d18) rfl rfl ?_
          refine XS.iloadN X0.here hexec rfl (hb hbytes d19) rfl ?_
          refine X0.aget hexec hB0 rfl (yv_get hB tB (i := i) (by omega)) rfl rfl (hb hbytes d20) ?_
          exact Steps.refl _)
        by_cases hv : yv A i = yv B i
        · have c5 : Steps p.tables e below (s₁.setTop (entryFrame m #[.ref a, .ref b] 3)) (s₁.setTop (mkF m 9 #[.val (.ref a), .val (.ref b), .val (.int (Int32.ofNat i + 1))] [])) := c4.trans (by
            refine XS.icmpYes X0.here hexec rfl (pc0 := 21) rfl (hb hbytes d21) rfl (ii_eq_t hv) (by decide) rfl ?_
            refine iincV X0.here hexec rfl 1 (hb hbytes d26) (by decide) rfl rfl ?_
            refine XS.goto X0.here hexec rfl (pc0 := 29) rfl (hb hbytes d29) (by decide) rfl ?_
            exact Steps.refl _)
          rw [succ32] at c5
          exact ih (i + 1) (by omega) (fun j hj => by
            by_cases e : j = i
            · rw [e]; exact hv
            · exact he j (by omega)) c5
        · exact ⟨25, _, 0, Or.inl rfl, Or.inr ⟨rfl, fun q => hv (q.2 i (by omega))⟩, c4.trans (by
            refine XS.icmpNo X0.here hexec rfl (hb hbytes d21) rfl (ii_eq_f hv) ?_
            refine iconstV X0.here hexec rfl 0 (hb hbytes d24) (by decide) ?_
            exact Steps.refl _)⟩
    obtain ⟨pc, Ls, v, hpc, hv, cz⟩ := loop A.slots.size 0 (by omega) (fun j hj => absurd hj (Nat.not_lt_zero j)) c3
    have nv : narrow .boolean (.int v) = .int v := by rcases hv with ⟨rfl, -⟩ | ⟨rfl, -⟩ <;> rfl
    rcases hpc with rfl | rfl
    · exact ⟨s₁, some (.int v), _, _, _, X0, rfl, rfl, rfl, (fun h => by cases h), ⟨v, rfl, hh0, hv⟩, fun fs hl => cz.trans (X0.ireturnOut hexec hret nv (Or.inr (Or.inl rfl)) (hb hbytes d25) hl)⟩
    · exact ⟨s₁, some (.int v), _, _, _, X0, rfl, rfl, rfl, (fun h => by cases h), ⟨v, rfl, hh0, hv⟩, fun fs hl => cz.trans (X0.ireturnOut hexec hret nv (Or.inr (Or.inl rfl)) (hb hbytes d33) hl)⟩
  · have c3 : Steps p.tables e below (s₁.setTop (entryFrame m #[.ref a, .ref b] 3)) (s₁.setTop (mkF m 35 #[.val (.ref a), .val (.ref b), .unset] [.int 0])) := c2.trans (by
      refine XS.icmpYes X0.here hexec rfl (pc0 := 4) rfl (hb hbytes d4) rfl (ii_ne_t (ne32 a31 b31 hs)) (by decide) rfl ?_
      refine iconstV X0.here hexec rfl 0 (hb hbytes d34) (by decide) ?_
      exact Steps.refl _)
    exact ⟨s₁, some (.int 0), _, _, _, X0, rfl, rfl, rfl, (fun h => by cases h), ⟨0, rfl, hh0, Or.inr ⟨rfl, fun q => hs q.1⟩⟩, fun fs hl => c3.trans (X0.ireturnOut hexec hret rfl (Or.inr (Or.inl rfl)) (hb hbytes d35) hl)⟩
end LEq
theorem Cod.ty {cd : Int32} {n : Nat} {f : Nat → Int32} {V : Cell} (h : Cod cd n f V) : Typed .byte V := fun i v hv => by
  have hi : i < V.slots.size := (Array.getElem?_eq_some_iff.mp hv).1
  rcases h with ⟨-, k1, k2⟩ | ⟨-, k1, k2, -⟩
  · rw [(k2 i (by omega)).1] at hv; cases hv; exact fits_lo8 _
  · rcases Nat.mod_two_eq_zero_or_one i with e | e
    · obtain ⟨j, rfl⟩ : ∃ j, i = 2 * j := ⟨i / 2, by omega⟩
      rw [(k2 j (by omega)).1] at hv; cases hv; exact fits_lo8 _
    · obtain ⟨j, rfl⟩ : ∃ j, i = 2 * j + 1 := ⟨i / 2, by omega⟩
      rw [(k2 j (by omega)).2] at hv; cases hv; exact fits_lo8 _
/-- the same text -/
def SameT (n : Nat) (f : Nat → Int32) (k : Nat) (g : Nat → Int32) : Prop := n = k ∧ ∀ j, j < n → f j = g j
theorem lo8_inj {x y : Int32} (h0 : ¬ x < 0) (h1 : ¬ 255 < x) (k0 : ¬ y < 0) (k1 : ¬ 255 < y) (h : lo8 x = lo8 y) : x = y := by
  rw [← lo8_mask h0 h1, ← lo8_mask k0 k1, h]
/-- arrays coded by one coder are equal just where the texts are -/
theorem Cod.eqv {cd : Int32} {n k : Nat} {f g : Nat → Int32} {V V' : Cell} (h : Cod cd n f V) (h' : Cod cd k g V') (hf : ∀ j, j < n → ¬ f j < 0 ∧ ¬ 65535 < f j) (hg : ∀ j, j < k → ¬ g j < 0 ∧ ¬ 65535 < g j) : EqC V V' ↔ SameT n f k g := by
  have yvv : ∀ {W : Cell} {i : Nat} {x : Int32}, W.slots[i]? = some (.int x) → yv W i = x := fun q => by unfold yv; rw [q]
  rcases h with ⟨rfl, k1, k2⟩ | ⟨rfl, k1, k2, -⟩
  · rcases h' with ⟨-, m1, m2⟩ | ⟨e, -⟩
    · constructor
      · rintro ⟨e1, e2⟩
        refine ⟨by omega, fun j hj => ?_⟩
        have q := e2 j (by omega)
        rw [yvv (k2 j hj).1, yvv (m2 j (by omega)).1] at q
        exact lo8_inj (hf j hj).1 (k2 j hj).2 (hg j (by omega)).1 (m2 j (by omega)).2 q
      · rintro ⟨rfl, e2⟩
        refine ⟨by omega, fun j hj => ?_⟩
        rw [yvv (k2 j (by omega)).1, yvv (m2 j (by omega)).1, e2 j (by omega)]
    · exact absurd e (by decide)
  · rcases h' with ⟨e, -⟩ | ⟨-, m1, m2, -⟩
    · exact absurd e (by decide)
    · constructor
      · rintro ⟨e1, e2⟩
        refine ⟨by omega, fun j hj => ?_⟩
        have q1 := e2 (2 * j) (by omega)
        have q2 := e2 (2 * j + 1) (by omega)
        rw [yvv (k2 j hj).1, yvv (m2 j (by omega)).1] at q1
        rw [yvv (k2 j hj).2, yvv (m2 j (by omega)).2] at q2
        rw [← pair_says (hf j hj).1 (hf j hj).2, ← pair_says (hg j (by omega)).1 (hg j (by omega)).2, q1, q2]
      · rintro ⟨rfl, e2⟩
        refine ⟨by omega, fun i hi => ?_⟩
        rcases Nat.mod_two_eq_zero_or_one i with e | e
        · obtain ⟨j, rfl⟩ : ∃ j, i = 2 * j := ⟨i / 2, by omega⟩
          rw [yvv (k2 j (by omega)).1, yvv (m2 j (by omega)).1, e2 j (by omega)]
        · obtain ⟨j, rfl⟩ : ∃ j, i = 2 * j + 1 := ⟨i / 2, by omega⟩
          rw [yvv (k2 j (by omega)).2, yvv (m2 j (by omega)).2, e2 j (by omega)]
/-- two codings differ: so do the texts -/
theorem Cod.dif {cd cd' : Int32} {n k : Nat} {f g : Nat → Int32} {V V' : Cell} (h : Cod cd n f V) (h' : Cod cd' k g V') (hne : ¬ cd = cd') : ¬ SameT n f k g := by
  rintro ⟨rfl, e⟩
  rcases h with ⟨rfl, -, k2⟩ | ⟨rfl, -, -, j, hj, hw⟩
  · rcases h' with ⟨rfl, -⟩ | ⟨-, -, -, j, hj, hw⟩
    · exact hne rfl
    · exact (k2 j hj).2 (by rw [e j hj]; exact hw)
  · rcases h' with ⟨-, -, m2⟩ | ⟨rfl, -⟩
    · exact (m2 j hj).2 (by rw [← e j hj]; exact hw)
    · exact hne rfl
/-- an object of exactly C is an instance of C -/
theorem cinst {p : Program} {l : Launch} {e : Env} {R : Room} {s : State} {m : MethodId} {args : Array Value} {below : List Frame} {meth : Method} {c : Code} {T : State} {locs : List Loc} {cells slots : Nat} (X : Stand p l e R s m args below meth c T locs cells slots) (hexec : p.tables.exec = Jvm.exec) {own C : String} {index : Nat} (hown : s.vm.findClass own = some m.cls) (hlink : (Cond.classLink own index C).before args s = true) {a : Addr} (hE : Exact C a T)
    {g : JFrame} (hg : g.method = m) {rest : List Value} (hstack : g.stack = .ref a :: rest) (hdg : decode c.code g.pc = .ok (.instanceof index, 3)) :
    ∃ T', Stand p l e R s m args below meth c T' locs cells slots ∧ T'.heap = T.heap ∧ ∀ target, Steps p.tables e below (T'.setTop { g with pc := g.pc + 3, stack := .int 1 :: rest }) target → Steps p.tables e below (T.setTop g) target := by
  obtain ⟨cB, h1, D, h2, h3, h4⟩ := hE
  have h1' : s.vm.findClass C = some cB := by rw [← X.warmed.alike.findClass]; exact h1
  obtain ⟨vm', X', st⟩ := X.instanceofYes hexec hown hlink h2 h4 h1' (by rw [h3]; exact Jvm.Free.SB.assignable_self _ _) hg hstack hdg
  exact ⟨_, X', rfl, st⟩
theorem cself {p : Program} {l : Launch} {e : Env} {R : Room} {s : State} {m : MethodId} {args : Array Value} {below : List Frame} {meth : Method} {c : Code} {T : State} {locs : List Loc} {cells slots : Nat} (X : Stand p l e R s m args below meth c T locs cells slots) (hexec : p.tables.exec = Jvm.exec) {own C : String} {index : Nat} (hown : s.vm.findClass own = some m.cls) (hlink : (Cond.classLink own index C).before args s = true) {a : Addr} (hE : Exact C a T)
    {g : JFrame} (hg : g.method = m) {rest : List Value} (hstack : g.stack = .ref a :: rest) (hdg : decode c.code g.pc = .ok (.checkcast index, 3)) :
    ∃ T', Stand p l e R s m args below meth c T' locs cells slots ∧ T'.heap = T.heap ∧ ∀ target, Steps p.tables e below (T'.setTop { g with pc := g.pc + 3, stack := .ref a :: rest }) target → Steps p.tables e below (T.setTop g) target := by
  obtain ⟨cB, h1, D, h2, h3, h4⟩ := hE
  have h1' : s.vm.findClass C = some cB := by rw [← X.warmed.alike.findClass]; exact h1
  obtain ⟨vm', X', st⟩ := X.checkcastYes hexec hown hlink h2 h4 h1' (by rw [h3]; exact Jvm.Free.SB.assignable_self _ _) hg hstack hdg
  exact ⟨_, X', rfl, fun t h => st t (by rw [← hstack] at h; exact h)⟩
namespace SEq
def yN : MethodName := ⟨"java/lang/String", "equals", "(Ljava/lang/Object;)Z"⟩
abbrev yB : ByteArray := jdk_42_method_66_code
theorem d0 : decode yB 0 = .ok (.aload_n 0, 1) := by decide +kernel
theorem d1 : decode yB 1 = .ok (.aload_n 1, 1) := by decide +kernel
theorem d2 : decode yB 2 = .ok (.if_acmp (.ne) 5, 3) := by decide +kernel
theorem d5 : decode yB 5 = .ok (.iconst 1, 1) := by decide +kernel
theorem d6 : decode yB 6 = .ok (.ireturn, 1) := by decide +kernel
theorem d7 : decode yB 7 = .ok (.aload_n 1, 1) := by decide +kernel
theorem d8 : decode yB 8 = .ok (.instanceof 10, 3) := by decide +kernel
theorem d11 : decode yB 11 = .ok (.ifCond (.eq) 43, 3) := by decide +kernel
theorem d14 : decode yB 14 = .ok (.aload_n 1, 1) := by decide +kernel
theorem d15 : decode yB 15 = .ok (.checkcast 10, 3) := by decide +kernel
theorem d18 : decode yB 18 = .ok (.astore_n 2, 1) := by decide +kernel
theorem d19 : decode yB 19 = .ok (.getstatic 38, 3) := by decide +kernel
theorem d22 : decode yB 22 = .ok (.ifCond (.eq) 14, 3) := by decide +kernel
theorem d25 : decode yB 25 = .ok (.aload_n 0, 1) := by decide +kernel
theorem d26 : decode yB 26 = .ok (.getfield 15, 3) := by decide +kernel
theorem d29 : decode yB 29 = .ok (.aload_n 2, 1) := by decide +kernel
theorem d30 : decode yB 30 = .ok (.getfield 15, 3) := by decide +kernel
theorem d33 : decode yB 33 = .ok (.if_icmp (.ne) 21, 3) := by decide +kernel
theorem d36 : decode yB 36 = .ok (.aload_n 0, 1) := by decide +kernel
theorem d37 : decode yB 37 = .ok (.getfield 9, 3) := by decide +kernel
theorem d40 : decode yB 40 = .ok (.aload_n 2, 1) := by decide +kernel
theorem d41 : decode yB 41 = .ok (.getfield 9, 3) := by decide +kernel
theorem d44 : decode yB 44 = .ok (.invokestatic 541, 3) := by decide +kernel
theorem d47 : decode yB 47 = .ok (.ifCond (.eq) 7, 3) := by decide +kernel
theorem d50 : decode yB 50 = .ok (.iconst 1, 1) := by decide +kernel
theorem d51 : decode yB 51 = .ok (.goto 4, 3) := by decide +kernel
theorem d54 : decode yB 54 = .ok (.iconst 0, 1) := by decide +kernel
theorem d55 : decode yB 55 = .ok (.ireturn, 1) := by decide +kernel
def site : List Cond := [.classLink "java/lang/String" 10 "java/lang/String", .fieldLink "java/lang/String" 38 "java/lang/String" "COMPACT_STRINGS" "Z", .fieldLink "java/lang/String" 15 "java/lang/String" "coder" "B", .fieldLink "java/lang/String" 9 "java/lang/String" "value" "[B", LEq.tab] ++ staticW "java/lang/String" 541 LEq.yN
def tab : Cond := tabOf yN yB 3 (some .boolean) site
def P (x t : Addr) (V : Cell) (cd : Int32) (n : Nat) (f : Nat → Int32) (y t' : Addr) (V' : Cell) (cd' : Int32) (k : Nat) (g : Nat → Int32) (z : Int32) (args : Array Value) (s : State) : Prop := args = #[.ref x, .ref y] ∧ Txt x t V cd n f s ∧ Txt y t' V' cd' k g s ∧ StaticIs s "java/lang/String" "COMPACT_STRINGS" "Z" (.int z) ∧ ¬ z = 0
/-- equals(Object) of two Strings: whether the texts are the same -/
theorem law (l : Launch) (x t : Addr) (V : Cell) (cd : Int32) (n : Nat) (f : Nat → Int32) (y t' : Addr) (V' : Cell) (cd' : Int32) (k : Nat) (g : Nat → Int32) (z : Int32) : Law l yN 2 1 1 14 yB 3 (some .boolean) site (P x t V cd n f y t' V' cd' k g z) (Says01 (SameT n f k g)) [] 0 0 := by
  refine Law.of_walk (plainFor_of_name (by decide +kernel)) (by decide +kernel) (by decide +kernel) (by decide) (fun _ _ h => by rw [h.1]; rfl) (fun _ U U' hal hh h => ⟨h.1, h.2.1.mv hal hh, h.2.2.1.mv hal hh, h.2.2.2.1.there hal hh, h.2.2.2.2⟩) (fun r U U' V V' h1 hal h2 h => Says01.mv r U U' V V' h1 hal h2 h) ?_
  intro p e s m args below meth c s₁ X0 hexec hbytes hml hret hlk hnm hown hh0 W hP
  obtain ⟨rfl, hx, hy, s1, hz⟩ := hP
  have c1 : Steps p.tables e below (s₁.setTop (entryFrame m #[.ref x, .ref y] 3)) (s₁.setTop (mkF m 2 #[.val (.ref x), .val (.ref y), .unset] [.ref y, .ref x])) := Steps.trans (entry rfl) (by
    show Steps p.tables e below (s₁.setTop (mkF m 0 #[.val (.ref x), .val (.ref y), .unset] [])) _
    refine XS.aloadN X0.here hexec rfl (hb hbytes d0) rfl rfl ?_
    refine XS.aloadN X0.here hexec rfl (hb hbytes d1) rfl rfl ?_
    exact Steps.refl _)
  by_cases hxy : x = y
  · have c2 : Steps p.tables e below (s₁.setTop (entryFrame m #[.ref x, .ref y] 3)) (s₁.setTop (mkF m 6 #[.val (.ref x), .val (.ref y), .unset] [.int 1])) := c1.trans (by
      refine acmpNo X0.here hexec rfl (hb hbytes d2) rfl rfl rfl (by simp [acmp, hxy]) ?_
      refine iconstV X0.here hexec rfl 1 (hb hbytes d5) (by decide) ?_
      exact Steps.refl _)
    subst hxy
    have ec : cd = cd' := by
      obtain ⟨D, fd, a1, a2, a3⟩ := hx.2.2.1
      obtain ⟨D', fd', b1, b2, b3⟩ := hy.2.2.1
      cases a1.symm.trans b1
      obtain ⟨q1, q2, q3, q4⟩ := a2.1
      obtain ⟨r1, r2, r3, r4⟩ := b2.1
      cases q4.symm.trans r4
      cases a3.symm.trans b3; rfl
    have et : t = t' := by
      obtain ⟨D, fd, a1, a2, a3⟩ := hx.2.1
      obtain ⟨D', fd', b1, b2, b3⟩ := hy.2.1
      cases a1.symm.trans b1
      obtain ⟨q1, q2, q3, q4⟩ := a2.1
      obtain ⟨r1, r2, r3, r4⟩ := b2.1
      cases q4.symm.trans r4
      cases a3.symm.trans b3; rfl
    subst ec et
    have ev : V = V' := by cases hx.2.2.2.1.1.symm.trans hy.2.2.2.1.1; rfl
    subst ev
    have hs : SameT n f k g := (Cod.eqv hx.2.2.2.2.1 hy.2.2.2.2.1 hx.2.2.2.2.2 hy.2.2.2.2.2).mp ⟨rfl, fun _ _ => rfl⟩
    exact ⟨s₁, some (.int 1), _, _, _, X0, rfl, rfl, rfl, (fun h => by cases h), ⟨1, rfl, hh0, Or.inl ⟨rfl, hs⟩⟩, fun fs hl => c2.trans (X0.ireturnOut hexec hret rfl (Or.inr (Or.inl rfl)) (hb hbytes d6) hl)⟩
  · have c2 : Steps p.tables e below (s₁.setTop (entryFrame m #[.ref x, .ref y] 3)) (s₁.setTop (mkF m 8 #[.val (.ref x), .val (.ref y), .unset] [.ref y])) := c1.trans (by
      refine acmpYes X0.here hexec rfl (pc0 := 2) rfl (hb hbytes d2) rfl rfl rfl (by simp [acmp, hxy]) (by decide) rfl ?_
      refine XS.aloadN X0.here hexec rfl (hb hbytes d7) rfl rfl ?_
      exact Steps.refl _)
    obtain ⟨T3, X3, q3, st3⟩ := cinst X0 hexec hown (wk W (.classLink "java/lang/String" 10 "java/lang/String")) (hy.mv X0.warmed.alike hh0).1 (g := (mkF m 8 #[.val (.ref x), .val (.ref y), .unset] [.ref y])) rfl (rest := []) rfl (hb hbytes d8)
    have hh3 := q3.trans hh0
    have c4 : Steps p.tables e below (s₁.setTop (entryFrame m #[.ref x, .ref y] 3)) (T3.setTop (mkF m 15 #[.val (.ref x), .val (.ref y), .unset] [.ref y])) := (c2.trans (st3 _ (Steps.refl _))).trans (by
      refine XS.ifNo X3.here hexec rfl (hb hbytes d11) rfl (i0_eq_f (by decide)) ?_
      refine XS.aloadN X3.here hexec rfl (hb hbytes d14) rfl rfl ?_
      exact Steps.refl _)
    obtain ⟨T5, X5, q5, st5⟩ := cself X3 hexec hown (wk W (.classLink "java/lang/String" 10 "java/lang/String")) (hy.mv X3.warmed.alike hh3).1 (g := (mkF m 15 #[.val (.ref x), .val (.ref y), .unset] [.ref y])) rfl (rest := []) rfl (hb hbytes d15)
    have hh5 := q5.trans hh3
    have c6 : Steps p.tables e below (s₁.setTop (entryFrame m #[.ref x, .ref y] 3)) (T5.setTop (mkF m 19 #[.val (.ref x), .val (.ref y), .val (.ref y)] [])) := (c4.trans (st5 _ (Steps.refl _))).trans (by
      refine XS.astoreN X5.here hexec rfl (hb hbytes d18) rfl rfl rfl ?_
      exact Steps.refl _)
    obtain ⟨T7, X7, q7, st7⟩ := X5.sget hexec hown (wk W (.fieldLink "java/lang/String" 38 "java/lang/String" "COMPACT_STRINGS" "Z")) s1 (fun _ _ h => by rw [hh5]; exact h) (g := (mkF m 19 #[.val (.ref x), .val (.ref y), .val (.ref y)] [])) rfl (hb hbytes d19)
    have hh7 := q7.trans hh5
    have c8 : Steps p.tables e below (s₁.setTop (entryFrame m #[.ref x, .ref y] 3)) (T7.setTop (mkF m 26 #[.val (.ref x), .val (.ref y), .val (.ref y)] [.ref x])) := (c6.trans (st7 _ (Steps.refl _))).trans (by
      refine XS.ifNo X7.here hexec rfl (hb hbytes d22) rfl (i0_eq_f hz) ?_
      refine XS.aloadN X7.here hexec rfl (hb hbytes d25) rfl rfl ?_
      exact Steps.refl _)
    obtain ⟨T9, X9, q9, st9⟩ := X7.hget hexec hown (wk W (.fieldLink "java/lang/String" 15 "java/lang/String" "coder" "B")) (hx.mv X7.warmed.alike hh7).2.2.1 (g := (mkF m 26 #[.val (.ref x), .val (.ref y), .val (.ref y)] [.ref x])) rfl (rest := []) rfl (hb hbytes d26)
    have hh9 := q9.trans hh7
    have c10 : Steps p.tables e below (s₁.setTop (entryFrame m #[.ref x, .ref y] 3)) (T9.setTop (mkF m 30 #[.val (.ref x), .val (.ref y), .val (.ref y)] [.ref y, .int cd])) := (c8.trans (st9 _ (Steps.refl _))).trans (by
      refine XS.aloadN X9.here hexec rfl (hb hbytes d29) rfl rfl ?_
      exact Steps.refl _)
    obtain ⟨T11, X11, q11, st11⟩ := X9.hget hexec hown (wk W (.fieldLink "java/lang/String" 15 "java/lang/String" "coder" "B")) (hy.mv X9.warmed.alike hh9).2.2.1 (g := (mkF m 30 #[.val (.ref x), .val (.ref y), .val (.ref y)] [.ref y, .int cd])) rfl (rest := [.int cd]) rfl (hb hbytes d30)
    have hh11 := q11.trans hh9
    have c12 : Steps p.tables e below (s₁.setTop (entryFrame m #[.ref x, .ref y] 3)) (T11.setTop (mkF m 33 #[.val (.ref x), .val (.ref y), .val (.ref y)] [.int cd', .int cd])) := c10.trans (st11 _ (Steps.refl _))
    by_cases hcd : cd = cd'
    · subst hcd
      have c13 : Steps p.tables e below (s₁.setTop (entryFrame m #[.ref x, .ref y] 3)) (T11.setTop (mkF m 37 #[.val (.ref x), .val (.ref y), .val (.ref y)] [.ref x])) := c12.trans (by
        refine XS.icmpNo X11.here hexec rfl (hb hbytes d33) rfl (ii_ne_f rfl) ?_
        refine XS.aloadN X11.here hexec rfl (hb hbytes d36) rfl rfl ?_
        exact Steps.refl _)
      obtain ⟨T14, X14, q14, st14⟩ := X11.hget hexec hown (wk W (.fieldLink "java/lang/String" 9 "java/lang/String" "value" "[B")) (hx.mv X11.warmed.alike hh11).2.1 (g := (mkF m 37 #[.val (.ref x), .val (.ref y), .val (.ref y)] [.ref x])) rfl (rest := []) rfl (hb hbytes d37)
      have hh14 := q14.trans hh11
      have c15 : Steps p.tables e below (s₁.setTop (entryFrame m #[.ref x, .ref y] 3)) (T14.setTop (mkF m 41 #[.val (.ref x), .val (.ref y), .val (.ref y)] [.ref y, .ref t])) := (c13.trans (st14 _ (Steps.refl _))).trans (by
        refine XS.aloadN X14.here hexec rfl (hb hbytes d40) rfl rfl ?_
        exact Steps.refl _)
      obtain ⟨T16, X16, q16, st16⟩ := X14.hget hexec hown (wk W (.fieldLink "java/lang/String" 9 "java/lang/String" "value" "[B")) (hy.mv X14.warmed.alike hh14).2.1 (g := (mkF m 41 #[.val (.ref x), .val (.ref y), .val (.ref y)] [.ref y, .ref t])) rfl (rest := [.ref t]) rfl (hb hbytes d41)
      have hh16 := q16.trans hh14
      have c17 : Steps p.tables e below (s₁.setTop (entryFrame m #[.ref x, .ref y] 3)) (T16.setTop (mkF m 44 #[.val (.ref x), .val (.ref y), .val (.ref y)] [.ref t', .ref t])) := c15.trans (st16 _ (Steps.refl _))
      obtain ⟨v18, T18, X18, E18, g18⟩ := X16.callS hexec (LEq.law l t V t' V') hown (wks W (staticW "java/lang/String" 541 LEq.yN)) (wk W LEq.tab) (W := 0) (Nat.le_of_ble_eq_true rfl) (Nat.le_of_ble_eq_true rfl) (Nat.le_refl _) (Nat.le_refl _) (g := (mkF m 44 #[.val (.ref x), .val (.ref y), .val (.ref y)] [.ref t', .ref t])) rfl (by rw [hml]; rfl) c17 (argsL := [.ref t, .ref t']) (rest := []) rfl rfl (by show 2 * 0 + 0 ≤ _; decide) (hb hbytes d44) (⟨rfl, hx.2.2.2.1.mv X16.warmed.alike hh16, hx.2.2.2.2.1.ty, hy.2.2.2.1.mv X16.warmed.alike hh16, hy.2.2.2.2.1.ty⟩)
      obtain ⟨v, rfl, q18, hv⟩ := E18
      have iff := Cod.eqv hx.2.2.2.2.1 hy.2.2.2.2.1 hx.2.2.2.2.2 hy.2.2.2.2.2
      rcases hv with ⟨rfl, he⟩ | ⟨rfl, he⟩
      · have c19 : Steps p.tables e below (s₁.setTop (entryFrame m #[.ref x, .ref y] 3)) (T18.setTop (mkF m 55 #[.val (.ref x), .val (.ref y), .val (.ref y)] [.int 1])) := Steps.trans g18 (by
          refine XS.ifNo X18.here hexec rfl (hb hbytes d47) rfl (i0_eq_f (by decide)) ?_
          refine iconstV X18.here hexec rfl 1 (hb hbytes d50) (by decide) ?_
          refine XS.goto X18.here hexec rfl (pc0 := 51) rfl (hb hbytes d51) (by decide) rfl ?_
          exact Steps.refl _)
        exact ⟨T18, some (.int 1), _, _, _, X18, rfl, rfl, rfl, (fun h => by cases h), ⟨1, rfl, q18.trans hh16, Or.inl ⟨rfl, iff.mp he⟩⟩, fun fs hl => c19.trans (X18.ireturnOut hexec hret rfl (Or.inr (Or.inl rfl)) (hb hbytes d55) hl)⟩
      · have c19 : Steps p.tables e below (s₁.setTop (entryFrame m #[.ref x, .ref y] 3)) (T18.setTop (mkF m 55 #[.val (.ref x), .val (.ref y), .val (.ref y)] [.int 0])) := Steps.trans g18 (by
          refine XS.ifYes X18.here hexec rfl (pc0 := 47) rfl (hb hbytes d47) rfl (i0_eq_t rfl) (by decide) rfl ?_
          refine iconstV X18.here hexec rfl 0 (hb hbytes d54) (by decide) ?_
          exact Steps.refl _)
        exact ⟨T18, some (.int 0), _, _, _, X18, rfl, rfl, rfl, (fun h => by cases h), ⟨0, rfl, q18.trans hh16, Or.inr ⟨rfl, fun q => he (iff.mpr q)⟩⟩, fun fs hl => c19.trans (X18.ireturnOut hexec hret rfl (Or.inr (Or.inl rfl)) (hb hbytes d55) hl)⟩
    · have c13 : Steps p.tables e below (s₁.setTop (entryFrame m #[.ref x, .ref y] 3)) (T11.setTop (mkF m 55 #[.val (.ref x), .val (.ref y), .val (.ref y)] [.int 0])) := c12.trans (by
        refine XS.icmpYes X11.here hexec rfl (pc0 := 33) rfl (hb hbytes d33) rfl (ii_ne_t hcd) (by decide) rfl ?_
        refine iconstV X11.here hexec rfl 0 (hb hbytes d54) (by decide) ?_
        exact Steps.refl _)
      exact ⟨T11, some (.int 0), _, _, _, X11, rfl, rfl, rfl, (fun h => by cases h), ⟨0, rfl, hh11, Or.inr ⟨rfl, Cod.dif hx.2.2.2.2.1 hy.2.2.2.2.1 hcd⟩⟩, fun fs hl => c13.trans (X11.ireturnOut hexec hret rfl (Or.inr (Or.inl rfl)) (hb hbytes d55) hl)⟩
theorem pays {l : Launch} {R : Room} {p : Program} {e : Env} {below : List Frame} {s : State} {sargs : Array Value} {len W : Nat} (x t : Addr) (V : Cell) (cd : Int32) (n : Nat) (f : Nat → Int32) (y t' : Addr) (V' : Cell) (cd' : Int32) (k : Nat) (g : Nat → Int32) (z : Int32) (htab : tab.before sargs s = true) (hfr : 2 ≤ R.frames) (hlo : W + 28 ≤ R.locals) :
    Back l R p e below s sargs yN len W (fun A₁ a₁ => A₁.cells + 0 ≤ R.cells ∧ A₁.slots + 0 ≤ R.slots ∧ P x t V cd n f y t' V' cd' k g z a₁ A₁.U) (fun A₁ _ v₁ B₁ => Says01 (SameT n f k g) v₁ A₁.U B₁.U ∧ B₁.locs = A₁.locs ++ [] ∧ B₁.cells = A₁.cells + 0 ∧ B₁.slots = A₁.slots + 0) :=
  (law l x t V cd n f y t' V' cd' k g z).pays htab hfr (by omega)
end SEq
end StrChars
namespace StrChars.Road
open Jvm Sem ClassFile Op Lib Jvm.Stand Jvm.Free Jvm.Free.XT
open Jvm.Lib.Cold (StaticIs)
/-- the words of String.equals(Object) -/
abbrev wordsEq : List Jvm.Cond := [.code SEq.yN SEq.yB 3 (some .boolean), .initialized ST, .classLink ST 10 ST, .fieldLink ST 38 ST "COMPACT_STRINGS" "Z", .fieldLink ST 15 ST "coder" "B", .fieldLink ST 9 ST "value" "[B", .methodLink ST 541 LEq.yN, .static LEq.yN, .code LEq.yN LEq.yB 3 (some .boolean), .initialized "java/lang/StringLatin1"]
theorem tabEq_of {a : Array Value} {s : State} (h : ∀ w ∈ wordsEq, w.before a s = true) : SEq.tab.before a s = true := by
  have hl : LEq.tab.before a s = true := unparts (wk h (.code LEq.yN LEq.yB 3 (some .boolean))) (wks h (.initialized LEq.yN.cls :: LEq.site))
  have q := consq hl h
  exact unparts (wk q (.code SEq.yN SEq.yB 3 (some .boolean))) (wks q (.initialized SEq.yN.cls :: SEq.site))
theorem movedEq {Z s : State} {a0 args : Array Value} (hZ : Z.Warmed39 s.vm) (hw : ∀ d ∈ wordsEq, d.before a0 Z = true) : ∀ d ∈ wordsEq, d.before args s = true := fun d hd => by
  have t : ∀ d ∈ wordsEq, (d.onTables && d.keepsFace) = true := by decide +kernel
  exact RoadKit.mv hZ (hw d hd) (t d hd)
/-- the road's facts of a String, as the laws ask it -/
theorem txt_of {Z U : State} {a0 : Array Value} {kI : Nat} (wi : (Jvm.Cond.instantiable ST kI).before a0 Z = true) (al : Z.vm.Alike U.vm) {x t : Addr} {kb : ClassId} {cs : List Int32} {cd N2 : Int32} {vs : List Value} (E : RoadKit.Exa Z U.heap x ST) (V : RoadKit.Fld Z U.heap x ST "value" "[B" (.ref t)) (C : RoadKit.Fld Z U.heap x ST "coder" "B" (.int cd)) (K : RoadKit.Arv Z U.heap t kb .byte N2 vs (.int 0)) (hc : CodA cs cd N2 vs) (hb : ∀ c ∈ cs, ¬ c < 0 ∧ ¬ (65535 : Int32) < c) (l2 : cs.length ≤ 4000) :
    ∃ A, Txt x t A cd cs.length (fun j => cs.getD j 0) U := by
  obtain ⟨A, K1, K2, K3, K4, K5, K6⟩ := K
  have hcod := hc.cod (by omega) K3 K5
  obtain ⟨D, fV, fC, hB, F1, F2, g1, g2, -, -⟩ := strObj wi al E V C
  exact ⟨A, ⟨_, hB.2.2.1, D, hB.1, rfl, by cases q : D.vm <;> first | rfl | exact absurd q (hB.2.1.2 _)⟩, Has.of hB F1 g1, Has.of hB F2 g2, ⟨K1.1, State.isArrayOf_alike al K1.2.1, K1.2.2, by rcases hcod with ⟨-, q, -⟩ | ⟨-, q, -⟩ <;> omega⟩, hcod, fun j hj => by
    have e : cs.getD j 0 = cs[j] := by simp [List.getD_eq_getElem?_getD, hj]
    show ¬ cs.getD j 0 < 0 ∧ ¬ 65535 < cs.getD j 0
    rw [e]; exact hb _ (List.getElem_mem _)⟩
theorem same_list (cs ds : List Int32) : SameT cs.length (fun j => cs.getD j 0) ds.length (fun j => ds.getD j 0) ↔ cs = ds := by
  constructor
  · rintro ⟨e, q⟩
    refine List.ext_getElem e fun j h1 h2 => ?_
    have := q j h1
    simpa [List.getD_eq_getElem?_getD, h1, h2] using this
  · rintro rfl
    exact ⟨rfl, fun _ _ => rfl⟩
/-- **equals(Object) OF TWO SUCH STRINGS**: 1 just where the chars are the same -/
theorem eqW {p : Program} {l : Launch} {e : Env} {R : Room} {s : State} {args : Array Value} {below : List Frame} {len W : Nat} {Z : State} {a0 : Array Value} {h : Heap} (hZ : Z.Warmed39 s.vm) (hw : ∀ d ∈ wordsEq, d.before a0 Z = true) {kI : Nat} (wi : (Jvm.Cond.instantiable ST kI).before a0 Z = true)
    {x t : Addr} {kb : ClassId} {cs : List Int32} {cd N2 : Int32} {vs : List Value} (E : RoadKit.Exa Z h x ST) (V : RoadKit.Fld Z h x ST "value" "[B" (.ref t)) (C : RoadKit.Fld Z h x ST "coder" "B" (.int cd)) (K : RoadKit.Arv Z h t kb .byte N2 vs (.int 0)) (hc : CodA cs cd N2 vs) (hb : ∀ c ∈ cs, ¬ c < 0 ∧ ¬ (65535 : Int32) < c) (l2 : cs.length ≤ 4000)
    {y t' : Addr} {kb' : ClassId} {ds : List Int32} {cd' N2' : Int32} {vs' : List Value} (E' : RoadKit.Exa Z h y ST) (V' : RoadKit.Fld Z h y ST "value" "[B" (.ref t')) (C' : RoadKit.Fld Z h y ST "coder" "B" (.int cd')) (K' : RoadKit.Arv Z h t' kb' .byte N2' vs' (.int 0)) (hc' : CodA ds cd' N2' vs') (hb' : ∀ c ∈ ds, ¬ c < 0 ∧ ¬ (65535 : Int32) < c) (l2' : ds.length ≤ 4000)
    {z : Int32} (S : RoadKit.Sta Z h ST "COMPACT_STRINGS" "Z" (.int z)) (hz : ¬ z = 0) (hfr : 2 ≤ R.frames) (hlo : W + 28 ≤ R.locals) :
    Back l R p e below s args (⟨"java/lang/String", "equals", "(Ljava/lang/Object;)Z"⟩ : MethodName) len W (fun P a => a = #[.ref x, .ref y] ∧ P.U.heap = h ∧ P.cells + 0 ≤ R.cells ∧ P.slots + 0 ≤ R.slots)
      (fun P _ v B => ∃ L, (((v = some (.int 1) ∧ cs = ds) ∨ (v = some (.int 0) ∧ ¬ cs = ds)) ∧ L = [] ∧ B.U.heap = h) ∧ B.locs = P.locs ++ L ∧ B.cells = P.cells + 0 ∧ B.slots = P.slots + 0) := by
  intro m meth c P g ig mk a X hg hsize hdg hW hn hp'
  obtain ⟨rfl, rfl, r1, r2⟩ := hp'
  have al : Z.vm.Alike P.U.vm := hZ.alike.trans X.warmed.alike
  obtain ⟨A, hx⟩ := txt_of wi al E V C K hc hb l2
  obtain ⟨A', hy⟩ := txt_of wi al E' V' C' K' hc' hb' l2'
  obtain ⟨v, B, X', ⟨⟨w, hv, hh, hq⟩, hl, hk, hs⟩, st⟩ := SEq.pays x t A cd cs.length (fun j => cs.getD j 0) y t' A' cd' ds.length (fun j => ds.getD j 0) z (tabEq_of (movedEq hZ hw)) hfr hlo m meth c P g ig mk _ X hg hsize hdg hW hn ⟨r1, r2, rfl, hx, hy, sta_is al S, hz⟩
  refine ⟨v, B, X', ⟨[], ⟨?_, rfl, hh⟩, hl, hk, hs⟩, st⟩
  rcases hq with ⟨rfl, q⟩ | ⟨rfl, q⟩
  · exact Or.inl ⟨hv, (same_list cs ds).mp q⟩
  · exact Or.inr ⟨hv, fun e => q ((same_list cs ds).mpr e)⟩
end StrChars.Road
namespace StrChars.Road
open Jvm Sem ClassFile Op Lib Jvm.Stand Jvm.Free Jvm.Free.XT
open Jvm.Lib.Cold (StaticIs)
/-- what backV says of its String, as the contracts of this text ask it: cs's low bytes, coder 0 -/
theorem codOf {cs : List Int32} {n : Nat} (hn : cs.length = n) (hb : ∀ c ∈ cs, ¬ 255 < c) : CodA cs 0 (Int32.ofNat n) ((cs.map lo8).map Value.int) := Or.inl ⟨rfl, by rw [hn], by simp [List.map_map, Function.comp_def], hb⟩
end StrChars.Road
end Jvm.Pilot.@@N@@
namespace Jvm.Pilot.@@N@@
open Jvm Jvm.ClassFile Sem Op Lib Jvm.Free Jvm.Stand Jvm.LawKit Jvm.RoadKit Bundle Jvm.Pilot.@@N@@.Jvm.D
/-- what is known of the String constant "" of java/lang/String's own pool: not loaded since the start, or loaded: an empty String -/
def Em (Z : State) (vm : Vm) (h : Heap) : Prop := IB Z vm [] ∨ ∃ (a b : Addr) (k : ClassId), Lit (Z.setVm vm) "java/lang/String" 7 a ∧ Exa Z h a "java/lang/String" ∧ Fld Z h a "java/lang/String" "coder" "B" (.int (0 : Int32)) ∧ Fld Z h a "java/lang/String" "value" "[B" (.ref b) ∧ Arv Z h b k .byte (0 : Int32) (own_bs []) (.int (0 : Int32))
theorem Em.keep {Z : State} {vm : Vm} {h h' : Heap} (M : Em Z vm h) (K : Keep h h' []) : Em Z vm h' := by
  rcases M with I | ⟨a, b, k, L, E, F, G, A⟩
  · exact Or.inl I
  · exact Or.inr ⟨a, b, k, L, E.keep K, F.keep K nin0, G.keep K nin0, A.keep K nin0⟩
theorem Em.warm {Z s : State} {vm vm' : Vm} {h : Heap} (M : Em Z vm h) (hW : (s.setVm vm).WarmedH vm') : Em Z vm' h := by
  rcases M with I | ⟨a, b, k, L, r⟩
  · refine Or.inl ?_
    obtain ⟨more, q1, q2⟩ := I
    exact ⟨more, hW.interned_eq.trans q1, q2⟩
  · have L' : Lit (s.setVm vm) "java/lang/String" 7 a := L
    exact Or.inr ⟨a, b, k, L'.stays hW.wide, r⟩
theorem own_emR {Z T : State} {h : Heap} {fs : List Frame} (e : T.heap = h) (q : Em Z T.vm h) : Em Z (T.setFrames fs).vm (T.setFrames fs).heap := by
  show Em Z T.vm T.heap
  rw [e]; exact q
theorem own_backOfE {l : Launch} {R : Room} {p : Program} {e : Env} {below : List Frame} {s Z : State} {args a0 : Array Value} {h : Heap} {y : MethodName} {bytes : ByteArray} {maxL : Nat} {ret : Option FieldType} {rm : Room} {len W : Nat} {as' : Array Value} {Q : Option Value → Heap → List Loc → Prop}
    (hM : MetFree l y (head1 [Jvm.Cond.code y bytes maxL ret] rm) (fun a U => a = as' ∧ Z.Warmed39 U.vm ∧ U.heap = h ∧ Em Z U.vm h) (fun _ _ _ _ _ => True) (fun _ U o U' => ∃ v L, o = .returned v ∧ Q v U'.heap L ∧ ReturnedEndW U o U' L rm.cells rm.slots ∧ Em Z U'.vm U'.heap))
    (hZ : Z.Warmed39 s.vm) (wc : (Jvm.Cond.code y bytes maxL ret).before a0 Z = true) (wz : (Jvm.Cond.initialized y.cls).before a0 Z = true) (hf : rm.frames + 1 ≤ R.frames) (hl : W + (maxL + 11) + rm.locals ≤ R.locals) :
    BackS l R p e below s args y len W (fun A a => a = as' ∧ A.U.heap = h ∧ A.cells + rm.cells ≤ R.cells ∧ A.slots + rm.slots ≤ R.slots ∧ Em Z A.U.vm h)
      (fun A _ v B => ∃ L, (Q v B.U.heap L ∧ Em Z B.U.vm B.U.heap) ∧ B.locs = A.locs ++ L ∧ B.cells = A.cells + rm.cells ∧ B.slots = A.slots + rm.slots) :=
  BackS.of_freeW (bytes := bytes) (maxL := maxL) (ret := ret) (E := fun _ _ o t L k n => k = rm.cells ∧ n = rm.slots ∧ ∃ v, o = .returned v ∧ Q v t.heap L ∧ Em Z t.vm t.heap) hM hf hl
    (fun m meth c A a Y hp => have hU : Z.Warmed39 A.U.vm := wtrans hZ Y.warmed
      ⟨by show (Jvm.Cond.and _ .tt).before a A.U = true; rw [Cond.before_and, mv hU wc]; rfl, mv hU wc, mv hU wz, hp.2.2.1, hp.2.2.2.1⟩)
    (fun m meth c A a g mk Y hp => ⟨hp.1, wtrans hZ Y.warmed, hp.2.1, hp.2.2.2.2⟩) (fun _ _ _ _ _ _ _ _ _ => trivial)
    (fun _ _ _ _ ⟨v, L, h1, h2, h3, h4⟩ => ⟨L, _, _, h3, rfl, rfl, v, h1, h2, h4⟩)
    (fun m meth c A a g mk v t L k n Y hp _ _ ⟨e1, e2, v', e3, e4⟩ => by cases e3; subst e1 e2; exact ⟨L, e4, rfl, rfl, rfl⟩)
theorem own_up {cs : List Int32} (h : ∀ c ∈ cs, ¬ c < 0 ∧ ¬ (255 : Int32) < c) : ∀ c ∈ cs, ¬ c < 0 ∧ ¬ (65535 : Int32) < c := fun c hc => ⟨(h c hc).1, fun q => (h c hc).2 (by rw [Int32.lt_iff_toInt_lt] at q ⊢; have e1 : (65535 : Int32).toInt = 65535 := rfl; have e2 : (255 : Int32).toInt = 255 := rfl; omega)⟩
theorem own_rng {c : Int32} (h : ¬ c < 0 ∧ ¬ (255 : Int32) < c) : 0 ≤ c.toInt ∧ c.toInt ≤ 255 := by
  have e1 : (0 : Int32).toInt = 0 := rfl
  have e2 : (255 : Int32).toInt = 255 := rfl
  rw [Int32.lt_iff_toInt_lt, Int32.lt_iff_toInt_lt] at h; omega
theorem own_i2c {c : Int32} (h : ¬ c < 0 ∧ ¬ (255 : Int32) < c) : c.toUInt32.toUInt16.toUInt32.toInt32 = c := by
  have h1 := own_rng h
  have h2 := c_i2c c
  exact Int32.toInt_inj.mp (by omega)
theorem own_len3 (x : Int32) : (x &&& (3 : Int32)) % (3 : Int32) = (0 : Int32) ∨ (x &&& (3 : Int32)) % (3 : Int32) = (1 : Int32) ∨ (x &&& (3 : Int32)) % (3 : Int32) = (2 : Int32) := by
  have h1 := c_and x 3 (by decide)
  have e3 : (3 : Int32).toInt = 3 := rfl
  have e0 : (0 : Int32).toInt = 0 := rfl
  have e1 : (1 : Int32).toInt = 1 := rfl
  have e2 : (2 : Int32).toInt = 2 := rfl
  have h2 := (c_irem (x &&& 3) 3 3 rfl).1 (by omega)
  rw [← Int32.toInt_inj, ← Int32.toInt_inj, ← Int32.toInt_inj]
  omega
theorem own_xor255 (a b : Int32) : ¬ ((a &&& (255 : Int32)) ^^^ (b &&& (255 : Int32))) < 0 ∧ ¬ (255 : Int32) < ((a &&& (255 : Int32)) ^^^ (b &&& (255 : Int32))) := by
  have e : (a &&& (255 : Int32)) ^^^ (b &&& (255 : Int32)) = (a ^^^ b) &&& (255 : Int32) := by
    apply Int32.toBitVec_inj.mp
    simp only [Int32.toBitVec_xor, Int32.toBitVec_and]
    ext i hi
    simp only [BitVec.getElem_xor, BitVec.getElem_and]
    cases a.toBitVec[i] <;> cases b.toBitVec[i] <;> simp
  rw [e]; exact own_b255 _
theorem own_xor0 (a : Int32) : ¬ ((a &&& (255 : Int32)) ^^^ (0 : Int32)) < 0 ∧ ¬ (255 : Int32) < ((a &&& (255 : Int32)) ^^^ (0 : Int32)) := by
  have e : (a &&& (255 : Int32)) ^^^ (0 : Int32) = a &&& (255 : Int32) := by simp
  rw [e]; exact own_b255 _
def own_cs (len c0 c1 : Int32) : List Int32 := if len = 0 then [] else if len = 1 then [c0] else [c0, c1]
theorem own_same_iff {l c0 c1 m d0 d1 : Int32} (hl : l = (0 : Int32) ∨ l = (1 : Int32) ∨ l = (2 : Int32)) (hm : m = (0 : Int32) ∨ m = (1 : Int32) ∨ m = (2 : Int32)) : own_cs l c0 c1 = own_cs m d0 d1 ↔ (l = m ∧ (¬ l < (1 : Int32) → c0 = d0) ∧ (¬ l < (2 : Int32) → c1 = d1)) := by
  rcases hl with rfl | rfl | rfl <;> rcases hm with rfl | rfl | rfl <;> simp +decide [own_cs]
theorem d_jdk_30_method_1_0 : decode jdk_30_method_1_code 0 = .ok (.aload_n 0, 1) := by decide +kernel
theorem d_jdk_30_method_1_1 : decode jdk_30_method_1_code 1 = .ok (.invokespecial 1, 3) := by decide +kernel
theorem d_jdk_30_method_1_4 : decode jdk_30_method_1_code 4 = .ok (.return_, 1) := by decide +kernel
theorem pn_0 : plainName "java/lang/Record" = true := by first | (simp [plainName, overriddenIn]; done) | decide +kernel
theorem d_jdk_42_method_149_0 : decode jdk_42_method_149_code 0 = .ok (.aload_n 0, 1) := by decide +kernel
theorem d_jdk_42_method_149_1 : decode jdk_42_method_149_code 1 = .ok (.invokespecial 1, 3) := by decide +kernel
theorem d_jdk_42_method_149_4 : decode jdk_42_method_149_code 4 = .ok (.iload_n 3, 1) := by decide +kernel
theorem d_jdk_42_method_149_5 : decode jdk_42_method_149_code 5 = .ok (.ifCond .ne 22, 3) := by decide +kernel
theorem d_jdk_42_method_149_8 : decode jdk_42_method_149_code 8 = .ok (.aload_n 0, 1) := by decide +kernel
theorem d_jdk_42_method_149_9 : decode jdk_42_method_149_code 9 = .ok (.ldc 7, 2) := by decide +kernel
theorem d_jdk_42_method_149_11 : decode jdk_42_method_149_code 11 = .ok (.getfield 9, 3) := by decide +kernel
theorem d_jdk_42_method_149_14 : decode jdk_42_method_149_code 14 = .ok (.putfield 9, 3) := by decide +kernel
theorem d_jdk_42_method_149_17 : decode jdk_42_method_149_code 17 = .ok (.aload_n 0, 1) := by decide +kernel
theorem d_jdk_42_method_149_18 : decode jdk_42_method_149_code 18 = .ok (.ldc 7, 2) := by decide +kernel
theorem d_jdk_42_method_149_20 : decode jdk_42_method_149_code 20 = .ok (.getfield 15, 3) := by decide +kernel
theorem d_jdk_42_method_149_23 : decode jdk_42_method_149_code 23 = .ok (.putfield 15, 3) := by decide +kernel
theorem d_jdk_42_method_149_26 : decode jdk_42_method_149_code 26 = .ok (.return_, 1) := by decide +kernel
theorem pn_1 : plainName "java/lang/String" = true := by first | (simp [plainName, overriddenIn]; done) | decide +kernel
theorem d_jdk_42_method_3_0 : decode jdk_42_method_3_code 0 = .ok (.aload_n 0, 1) := by decide +kernel
theorem d_jdk_42_method_3_1 : decode jdk_42_method_3_code 1 = .ok (.aload_n 1, 1) := by decide +kernel
theorem d_jdk_42_method_3_2 : decode jdk_42_method_3_code 2 = .ok (.iconst 0, 1) := by decide +kernel
theorem d_jdk_42_method_3_3 : decode jdk_42_method_3_code 3 = .ok (.aload_n 1, 1) := by decide +kernel
theorem d_jdk_42_method_3_4 : decode jdk_42_method_3_code 4 = .ok (.arraylength, 1) := by decide +kernel
theorem d_jdk_42_method_3_5 : decode jdk_42_method_3_code 5 = .ok (.aconst_null, 1) := by decide +kernel
theorem d_jdk_42_method_3_6 : decode jdk_42_method_3_code 6 = .ok (.invokespecial 27, 3) := by decide +kernel
theorem pd_0 : parseMethodDescriptor "([CIILjava/lang/Void;)V" = some ⟨[(.array .char), .int, .int, (.object "java/lang/Void")], none⟩ := by decide +kernel
theorem d_jdk_42_method_3_9 : decode jdk_42_method_3_code 9 = .ok (.return_, 1) := by decide +kernel
theorem d_method_2_0 : decode method_2_code 0 = .ok (.iload_n 2, 1) := by decide +kernel
theorem d_method_2_1 : decode method_2_code 1 = .ok (.ifCond .ne 14, 3) := by decide +kernel
theorem d_method_2_4 : decode method_2_code 4 = .ok (.new 7, 3) := by decide +kernel
theorem d_method_2_7 : decode method_2_code 7 = .ok (.dup, 1) := by decide +kernel
theorem d_method_2_8 : decode method_2_code 8 = .ok (.iconst 0, 1) := by decide +kernel
theorem d_method_2_9 : decode method_2_code 9 = .ok (.newarray .char, 2) := by decide +kernel
theorem d_method_2_11 : decode method_2_code 11 = .ok (.invokespecial 9, 3) := by decide +kernel
theorem pd_1 : parseMethodDescriptor "([C)V" = some ⟨[(.array .char)], none⟩ := by decide +kernel
theorem d_method_2_14 : decode method_2_code 14 = .ok (.areturn, 1) := by decide +kernel
theorem d_method_2_15 : decode method_2_code 15 = .ok (.iload_n 2, 1) := by decide +kernel
theorem d_method_2_16 : decode method_2_code 16 = .ok (.iconst 1, 1) := by decide +kernel
theorem d_method_2_17 : decode method_2_code 17 = .ok (.if_icmp .ne 19, 3) := by decide +kernel
theorem d_method_2_20 : decode method_2_code 20 = .ok (.new 7, 3) := by decide +kernel
theorem d_method_2_23 : decode method_2_code 23 = .ok (.dup, 1) := by decide +kernel
theorem d_method_2_24 : decode method_2_code 24 = .ok (.iconst 1, 1) := by decide +kernel
theorem d_method_2_25 : decode method_2_code 25 = .ok (.newarray .char, 2) := by decide +kernel
theorem d_method_2_27 : decode method_2_code 27 = .ok (.dup, 1) := by decide +kernel
theorem d_method_2_28 : decode method_2_code 28 = .ok (.iconst 0, 1) := by decide +kernel
theorem d_method_2_29 : decode method_2_code 29 = .ok (.iload_n 0, 1) := by decide +kernel
theorem d_method_2_30 : decode method_2_code 30 = .ok (.i2c, 1) := by decide +kernel
theorem d_method_2_31 : decode method_2_code 31 = .ok (.castore, 1) := by decide +kernel
theorem d_method_2_32 : decode method_2_code 32 = .ok (.invokespecial 9, 3) := by decide +kernel
theorem d_method_2_35 : decode method_2_code 35 = .ok (.areturn, 1) := by decide +kernel
theorem d_method_2_36 : decode method_2_code 36 = .ok (.new 7, 3) := by decide +kernel
theorem d_method_2_39 : decode method_2_code 39 = .ok (.dup, 1) := by decide +kernel
theorem d_method_2_40 : decode method_2_code 40 = .ok (.iconst 2, 1) := by decide +kernel
theorem d_method_2_41 : decode method_2_code 41 = .ok (.newarray .char, 2) := by decide +kernel
theorem d_method_2_43 : decode method_2_code 43 = .ok (.dup, 1) := by decide +kernel
theorem d_method_2_44 : decode method_2_code 44 = .ok (.iconst 0, 1) := by decide +kernel
theorem d_method_2_45 : decode method_2_code 45 = .ok (.iload_n 0, 1) := by decide +kernel
theorem d_method_2_46 : decode method_2_code 46 = .ok (.i2c, 1) := by decide +kernel
theorem d_method_2_47 : decode method_2_code 47 = .ok (.castore, 1) := by decide +kernel
theorem d_method_2_48 : decode method_2_code 48 = .ok (.dup, 1) := by decide +kernel
theorem d_method_2_49 : decode method_2_code 49 = .ok (.iconst 1, 1) := by decide +kernel
theorem d_method_2_50 : decode method_2_code 50 = .ok (.iload_n 1, 1) := by decide +kernel
theorem d_method_2_51 : decode method_2_code 51 = .ok (.i2c, 1) := by decide +kernel
theorem d_method_2_52 : decode method_2_code 52 = .ok (.castore, 1) := by decide +kernel
theorem d_method_2_53 : decode method_2_code 53 = .ok (.invokespecial 9, 3) := by decide +kernel
theorem d_method_2_56 : decode method_2_code 56 = .ok (.areturn, 1) := by decide +kernel
theorem pn_2 : plainName "org/bindery/DocumentElementIsPinLaw" = true := by first | (simp [plainName, overriddenIn]; done) | decide +kernel
theorem d_prog_75_method_1_0 : decode prog_75_method_1_code 0 = .ok (.aload_n 0, 1) := by decide +kernel
theorem d_prog_75_method_1_1 : decode prog_75_method_1_code 1 = .ok (.invokespecial 1, 3) := by decide +kernel
theorem pd_2 : parseMethodDescriptor "()V" = some ⟨[], none⟩ := by decide +kernel
theorem d_prog_75_method_1_4 : decode prog_75_method_1_code 4 = .ok (.aload_n 0, 1) := by decide +kernel
theorem d_prog_75_method_1_5 : decode prog_75_method_1_code 5 = .ok (.iload_n 1, 1) := by decide +kernel
theorem d_prog_75_method_1_6 : decode prog_75_method_1_code 6 = .ok (.putfield 7, 3) := by decide +kernel
theorem d_prog_75_method_1_9 : decode prog_75_method_1_code 9 = .ok (.aload_n 0, 1) := by decide +kernel
theorem d_prog_75_method_1_10 : decode prog_75_method_1_code 10 = .ok (.iload_n 2, 1) := by decide +kernel
theorem d_prog_75_method_1_11 : decode prog_75_method_1_code 11 = .ok (.putfield 13, 3) := by decide +kernel
theorem d_prog_75_method_1_14 : decode prog_75_method_1_code 14 = .ok (.return_, 1) := by decide +kernel
theorem pn_3 : plainName "org/bindery/Position" = true := by first | (simp [plainName, overriddenIn]; done) | decide +kernel
theorem d_prog_37_method_1_0 : decode prog_37_method_1_code 0 = .ok (.aload_n 0, 1) := by decide +kernel
theorem d_prog_37_method_1_1 : decode prog_37_method_1_code 1 = .ok (.invokespecial 1, 3) := by decide +kernel
theorem d_prog_37_method_1_4 : decode prog_37_method_1_code 4 = .ok (.aload_n 0, 1) := by decide +kernel
theorem d_prog_37_method_1_5 : decode prog_37_method_1_code 5 = .ok (.aload_n 1, 1) := by decide +kernel
theorem d_prog_37_method_1_6 : decode prog_37_method_1_code 6 = .ok (.putfield 7, 3) := by decide +kernel
theorem d_prog_37_method_1_9 : decode prog_37_method_1_code 9 = .ok (.aload_n 0, 1) := by decide +kernel
theorem d_prog_37_method_1_10 : decode prog_37_method_1_code 10 = .ok (.aload_n 2, 1) := by decide +kernel
theorem d_prog_37_method_1_11 : decode prog_37_method_1_code 11 = .ok (.putfield 13, 3) := by decide +kernel
theorem d_prog_37_method_1_14 : decode prog_37_method_1_code 14 = .ok (.aload_n 0, 1) := by decide +kernel
theorem d_prog_37_method_1_15 : decode prog_37_method_1_code 15 = .ok (.aload_n 3, 1) := by decide +kernel
theorem d_prog_37_method_1_16 : decode prog_37_method_1_code 16 = .ok (.putfield 16, 3) := by decide +kernel
theorem d_prog_37_method_1_19 : decode prog_37_method_1_code 19 = .ok (.aload_n 0, 1) := by decide +kernel
theorem d_prog_37_method_1_20 : decode prog_37_method_1_code 20 = .ok (.aload 4, 2) := by decide +kernel
theorem d_prog_37_method_1_22 : decode prog_37_method_1_code 22 = .ok (.putfield 19, 3) := by decide +kernel
theorem d_prog_37_method_1_25 : decode prog_37_method_1_code 25 = .ok (.return_, 1) := by decide +kernel
theorem pn_4 : plainName "org/bindery/DocumentElement" = true := by first | (simp [plainName, overriddenIn]; done) | decide +kernel
theorem d_prog_37_method_3_0 : decode prog_37_method_3_code 0 = .ok (.aload_n 0, 1) := by decide +kernel
theorem d_prog_37_method_3_1 : decode prog_37_method_3_code 1 = .ok (.getfield 7, 3) := by decide +kernel
theorem d_prog_37_method_3_4 : decode prog_37_method_3_code 4 = .ok (.aload_n 1, 1) := by decide +kernel
theorem d_prog_37_method_3_5 : decode prog_37_method_3_code 5 = .ok (.invokevirtual 47, 3) := by decide +kernel
theorem pd_3 : parseMethodDescriptor "(Ljava/lang/Object;)Z" = some ⟨[(.object "java/lang/Object")], some .boolean⟩ := by decide +kernel
theorem d_prog_37_method_3_8 : decode prog_37_method_3_code 8 = .ok (.ifCond .eq 18, 3) := by decide +kernel
theorem d_prog_37_method_3_11 : decode prog_37_method_3_code 11 = .ok (.aload_n 0, 1) := by decide +kernel
theorem d_prog_37_method_3_12 : decode prog_37_method_3_code 12 = .ok (.getfield 13, 3) := by decide +kernel
theorem d_prog_37_method_3_15 : decode prog_37_method_3_code 15 = .ok (.aload_n 2, 1) := by decide +kernel
theorem d_prog_37_method_3_16 : decode prog_37_method_3_code 16 = .ok (.invokevirtual 47, 3) := by decide +kernel
theorem d_prog_37_method_3_19 : decode prog_37_method_3_code 19 = .ok (.ifCond .eq 7, 3) := by decide +kernel
theorem d_prog_37_method_3_22 : decode prog_37_method_3_code 22 = .ok (.iconst 1, 1) := by decide +kernel
theorem d_prog_37_method_3_23 : decode prog_37_method_3_code 23 = .ok (.goto 4, 3) := by decide +kernel
theorem d_prog_37_method_3_27 : decode prog_37_method_3_code 27 = .ok (.ireturn, 1) := by decide +kernel
theorem d_prog_37_method_3_26 : decode prog_37_method_3_code 26 = .ok (.iconst 0, 1) := by decide +kernel
theorem d_method_3_0 : decode method_3_code 0 = .ok (.iload_n 0, 1) := by decide +kernel
theorem d_method_3_1 : decode method_3_code 1 = .ok (.iload_n 3, 1) := by decide +kernel
theorem d_method_3_2 : decode method_3_code 2 = .ok (.if_icmp .eq 5, 3) := by decide +kernel
theorem d_method_3_7 : decode method_3_code 7 = .ok (.iload_n 0, 1) := by decide +kernel
theorem d_method_3_8 : decode method_3_code 8 = .ok (.iconst 1, 1) := by decide +kernel
theorem d_method_3_9 : decode method_3_code 9 = .ok (.if_icmp .lt 11, 3) := by decide +kernel
theorem d_method_3_20 : decode method_3_code 20 = .ok (.iload_n 0, 1) := by decide +kernel
theorem d_method_3_21 : decode method_3_code 21 = .ok (.iconst 2, 1) := by decide +kernel
theorem d_method_3_22 : decode method_3_code 22 = .ok (.if_icmp .lt 11, 3) := by decide +kernel
theorem d_method_3_33 : decode method_3_code 33 = .ok (.iconst 1, 1) := by decide +kernel
theorem d_method_3_34 : decode method_3_code 34 = .ok (.ireturn, 1) := by decide +kernel
theorem d_method_3_25 : decode method_3_code 25 = .ok (.iload_n 2, 1) := by decide +kernel
theorem d_method_3_26 : decode method_3_code 26 = .ok (.iload 5, 2) := by decide +kernel
theorem d_method_3_28 : decode method_3_code 28 = .ok (.if_icmp .eq 5, 3) := by decide +kernel
theorem d_method_3_31 : decode method_3_code 31 = .ok (.iconst 0, 1) := by decide +kernel
theorem d_method_3_32 : decode method_3_code 32 = .ok (.ireturn, 1) := by decide +kernel
theorem d_method_3_12 : decode method_3_code 12 = .ok (.iload_n 1, 1) := by decide +kernel
theorem d_method_3_13 : decode method_3_code 13 = .ok (.iload 4, 2) := by decide +kernel
theorem d_method_3_15 : decode method_3_code 15 = .ok (.if_icmp .eq 5, 3) := by decide +kernel
theorem d_method_3_18 : decode method_3_code 18 = .ok (.iconst 0, 1) := by decide +kernel
theorem d_method_3_19 : decode method_3_code 19 = .ok (.ireturn, 1) := by decide +kernel
theorem d_method_3_5 : decode method_3_code 5 = .ok (.iconst 0, 1) := by decide +kernel
theorem d_method_3_6 : decode method_3_code 6 = .ok (.ireturn, 1) := by decide +kernel
theorem pd_4 : parseMethodDescriptor "(III)Ljava/lang/String;" = some ⟨[.int, .int, .int], some (.object "java/lang/String")⟩ := by decide +kernel
theorem pd_5 : parseMethodDescriptor "(II)V" = some ⟨[.int, .int], none⟩ := by decide +kernel
theorem pd_6 : parseMethodDescriptor "(Ljava/lang/String;Ljava/lang/String;Ljava/lang/String;Lorg/bindery/Position;)V" = some ⟨[(.object "java/lang/String"), (.object "java/lang/String"), (.object "java/lang/String"), (.object "org/bindery/Position")], none⟩ := by decide +kernel
theorem pd_7 : parseMethodDescriptor "(Ljava/lang/String;Ljava/lang/String;)Z" = some ⟨[(.object "java/lang/String"), (.object "java/lang/String")], some .boolean⟩ := by decide +kernel
theorem pd_8 : parseMethodDescriptor "(IIIIII)Z" = some ⟨[.int, .int, .int, .int, .int, .int], some .boolean⟩ := by decide +kernel
def QRec (Z : State) (a : Addr) (h0 : Heap) (n0 : Nat) (v : Option Value) (h : Heap) (L : List Loc) : Prop := v = none ∧ Fr n0 L ∧ h = h0
theorem ef_Rec (m : MethodId) (a : Addr) : entryFrame m #[(.ref a)] 1 = mkF m 0 #[.val (.ref a)] [] := by first | (simp [entryFrame, mkF, argsToLocals, Value.category]; done) | rfl | (rfl)
set_option maxRecDepth 65536 in
set_option maxHeartbeats 40000000 in
theorem rmRec (l : Launch) (Z : State) (a0 : Array Value) (hw : ∀ d ∈ tables_1, d.before a0 Z = true) (ws : List Jvm.Cond) (a : Addr) (h0 : Heap) (n0 : Nat) (O : Old Z n0 h0)  :
    MetFree l (⟨"java/lang/Record", "<init>", "()V"⟩ : MethodName) (head1 (Jvm.Cond.code (⟨"java/lang/Record", "<init>", "()V"⟩ : MethodName) jdk_30_method_1_code 1 none :: ws) ({ frames := 1, cells := 0, slots := 0, locals := 12 } : Room)) (fun as_ U => as_ = #[(.ref a)] ∧ Z.Warmed39 U.vm ∧ U.heap = h0) (fun _ _ _ _ _ => True) (fun _ U oo_ U' => ∃ vv_ LL_, oo_ = .returned vv_ ∧ QRec Z a h0 n0 vv_ U'.heap LL_ ∧ FrameEnd U oo_ U' LL_ ({ frames := 1, cells := 0, slots := 0, locals := 12 } : Room).cells ({ frames := 1, cells := 0, slots := 0, locals := 12 } : Room).slots) := by
  refine MetFree.of_bodySF (plainFor_of_name pn_0) hisR ?_
  intro p e s m args below meth c s₁ Bd hml0 hP hK
  obtain ⟨rfl, hZ, hh⟩ := hP
  have hx := Bd.exec
  have hby := Bd.bytes
  have hml : c.maxLocals = 1 := hml0
  have hown : s.vm.findClass "java/lang/Record" = some m.cls := findClass_of_methodNamed Bd.named
  have hnm := (name_of_methodNamed Bd.named Bd.method).1
  have X0 : Stand p l e ({ frames := 1, cells := 0, slots := 0, locals := 12 } : Room) s m #[(.ref a)] below meth c s₁ [] 0 0 := Stand.of_body Bd
  have e0 : s₁.heap = h0 := by rw [← hh, Bd.state]; rfl
  have N := Fr.nil n0
  have K : Keep h0 h0 [] := Keep.refl h0 _
  refine own_go (B := s₁.setTop (mkF m 0 #[.val (.ref a)] [])) (fun t k => castTop (ef_Rec m a) k) ?_
  refine own_abs (fun P hfin => ?_)
  refine own_go (B := s₁.setTop (mkF m 1 #[.val (.ref a)] [(.ref a)])) (fun t k => ?_) ?_
  · show Steps p.tables e below (s₁.setTop (mkF m 0 #[.val (.ref a)] [])) _
    refine XS.aloadN X0.here hx rfl (hb hby d_jdk_30_method_1_0) rfl rfl ?_
    show Steps p.tables e below (s₁.setTop (mkF m 1 #[.val (.ref a)] [(.ref a)])) _
    exact k
  obtain ⟨T1, X1, e1, st1⟩ := initO X0 hx hZ hown (hw _ (List.mem_of_getElem? (i := 40) rfl)) (hw _ (List.mem_of_getElem? (i := 16) rfl)) (hw _ (List.mem_of_getElem? (i := 17) rfl)) e0 (g := (mkF m 1 #[.val (.ref a)] [(.ref a)])) rfl (by rw [hml]; rfl) rfl (hb hby d_jdk_30_method_1_1) (by decide) (W := 0) (by show 2 * 0 + _ ≤ _; exact Nat.le_of_eq rfl) (by decide)
  refine own_go (B := T1.setTop (mkF m 4 #[.val (.ref a)] [])) st1 ?_
  obtain ⟨fs, hr, hrun, hended, hW, hsame⟩ := X1.leave (v := none) (fun _ => rfl)
  refine ⟨_, _, X1.returnOut hx Bd.returns (hb hby d_jdk_30_method_1_4) hr, hfin _ _ ⟨hrun, hended, _, _, rfl, ?_, ⟨_, rfl⟩, hW, hsame.mono (by decide) (by decide)⟩⟩
  show QRec Z a h0 n0 _ T1.heap _
  exact ⟨rfl, N, e1⟩
def QSE2 (Z : State) (a : Addr) (b : Addr) (h0 : Heap) (n0 : Nat) (v : Option Value) (h : Heap) (L : List Loc) : Prop := ∃ t : Addr, ∃ k : ClassId, v = none ∧ Fr n0 L ∧ Keep h0 h [a] ∧ Fld Z h a "java/lang/String" "coder" "B" (.int (0 : Int32)) ∧ Fld Z h a "java/lang/String" "value" "[B" (.ref t) ∧ Arv Z h t k .byte (0 : Int32) (own_bs []) (.int (0 : Int32))
theorem ef_SE2 (m : MethodId) (a : Addr) (b : Addr) : entryFrame m #[(.ref a), (.ref b), (.int (0 : Int32)), (.int (0 : Int32)), .null] 6 = mkF m 0 #[.val (.ref a), .val (.ref b), .val (.int (0 : Int32)), .val (.int (0 : Int32)), .val .null, .unset] [] := by first | (simp [entryFrame, mkF, argsToLocals, Value.category]; done) | rfl | (rfl)
set_option maxRecDepth 65536 in
set_option maxHeartbeats 40000000 in
theorem rmSE2 (l : Launch) (Z : State) (a0 : Array Value) (hw : ∀ d ∈ tables_1, d.before a0 Z = true) (ws : List Jvm.Cond) (a : Addr) (b : Addr) (h0 : Heap) (n0 : Nat) (O : Old Z n0 h0) (E : Exa Z h0 a "java/lang/String") (F1 : Fld Z h0 a "java/lang/String" "value" "[B" .null) (F2 : Fld Z h0 a "java/lang/String" "coder" "B" (.int (0 : Int32))) (ga : n0 ≤ a) (hcH : Jvm.Lit.constHeld Z "java/lang/String" 7) (hcw : Jvm.Lit.compactW.before a0 Z = true) :
    MetFree l (⟨"java/lang/String", "<init>", "([CIILjava/lang/Void;)V"⟩ : MethodName) (head1 (Jvm.Cond.code (⟨"java/lang/String", "<init>", "([CIILjava/lang/Void;)V"⟩ : MethodName) jdk_42_method_149_code 6 none :: ws) ({ frames := 1, cells := 2, slots := 4, locals := 12 } : Room)) (fun as_ U => as_ = #[(.ref a), (.ref b), (.int (0 : Int32)), (.int (0 : Int32)), .null] ∧ Z.Warmed39 U.vm ∧ U.heap = h0 ∧ Em Z U.vm h0) (fun _ _ _ _ _ => True) (fun _ U oo_ U' => ∃ vv_ LL_, oo_ = .returned vv_ ∧ QSE2 Z a b h0 n0 vv_ U'.heap LL_ ∧ ReturnedEndW U oo_ U' LL_ ({ frames := 1, cells := 2, slots := 4, locals := 12 } : Room).cells ({ frames := 1, cells := 2, slots := 4, locals := 12 } : Room).slots ∧ Em Z U'.vm U'.heap) := by
  refine MetFree.of_bodySF (plainFor_of_name pn_1) hisR ?_
  intro p e s m args below meth c s₁ Bd hml0 hP hK
  obtain ⟨rfl, hZ, hh, M⟩ := hP
  have hx := Bd.exec
  have hby := Bd.bytes
  have hml : c.maxLocals = 6 := hml0
  have hown : s.vm.findClass "java/lang/String" = some m.cls := findClass_of_methodNamed Bd.named
  have hnm := (name_of_methodNamed Bd.named Bd.method).1
  have X0 : Stand p l e ({ frames := 1, cells := 2, slots := 4, locals := 12 } : Room) (s.setVm s.vm) m #[(.ref a), (.ref b), (.int (0 : Int32)), (.int (0 : Int32)), .null] below meth c s₁ [] 0 0 := Stand.of_body Bd
  have e0 : s₁.heap = h0 := by rw [← hh, Bd.state]; rfl
  have N := Fr.nil n0
  have hown : (s.setVm s.vm).vm.findClass "java/lang/String" = some m.cls := hown
  have hZ : Z.Warmed39 (s.setVm s.vm).vm := hZ
  have hS : s.Since s.vm h0.size := (State.WarmedH.refl s).since _
  have hk : h0.size ≤ h0.size := Nat.le_refl _
  have K : Keep h0 h0 [a] := Keep.refl h0 _
  refine own_go (B := s₁.setTop (mkF m 0 #[.val (.ref a), .val (.ref b), .val (.int (0 : Int32)), .val (.int (0 : Int32)), .val .null, .unset] [])) (fun t k => castTop (ef_SE2 m a b) k) ?_
  have KM : Keep h0 h0 [] := Keep.refl h0 _
  refine own_abs (fun P hfin => ?_)
  refine own_go (B := s₁.setTop (mkF m 1 #[.val (.ref a), .val (.ref b), .val (.int (0 : Int32)), .val (.int (0 : Int32)), .val .null, .unset] [(.ref a)])) (fun t k => ?_) ?_
  · show Steps p.tables e below (s₁.setTop (mkF m 0 #[.val (.ref a), .val (.ref b), .val (.int (0 : Int32)), .val (.int (0 : Int32)), .val .null, .unset] [])) _
    refine XS.aloadN X0.here hx rfl (hb hby d_jdk_42_method_149_0) rfl rfl ?_
    show Steps p.tables e below (s₁.setTop (mkF m 1 #[.val (.ref a), .val (.ref b), .val (.int (0 : Int32)), .val (.int (0 : Int32)), .val .null, .unset] [(.ref a)])) _
    exact k
  obtain ⟨T1, X1, e1, st1⟩ := initO X0 hx hZ hown (hw _ (List.mem_of_getElem? (i := 15) rfl)) (hw _ (List.mem_of_getElem? (i := 16) rfl)) (hw _ (List.mem_of_getElem? (i := 17) rfl)) e0 (g := (mkF m 1 #[.val (.ref a), .val (.ref b), .val (.int (0 : Int32)), .val (.int (0 : Int32)), .val .null, .unset] [(.ref a)])) rfl (by rw [hml]; rfl) rfl (hb hby d_jdk_42_method_149_1) (by decide) (W := 0) (by show 2 * 0 + _ ≤ _; exact Nat.le_of_eq rfl) (by decide)
  refine own_go (B := T1.setTop (mkF m 4 #[.val (.ref a), .val (.ref b), .val (.int (0 : Int32)), .val (.int (0 : Int32)), .val .null, .unset] [])) st1 ?_
  refine own_go (B := T1.setTop (mkF m 9 #[.val (.ref a), .val (.ref b), .val (.int (0 : Int32)), .val (.int (0 : Int32)), .val .null, .unset] [(.ref a)])) (fun t k => ?_) ?_
  · show Steps p.tables e below (T1.setTop (mkF m 4 #[.val (.ref a), .val (.ref b), .val (.int (0 : Int32)), .val (.int (0 : Int32)), .val .null, .unset] [])) _
    refine XS.iloadN X1.here hx rfl (hb hby d_jdk_42_method_149_4) rfl ?_
    show Steps p.tables e below (T1.setTop (mkF m 5 #[.val (.ref a), .val (.ref b), .val (.int (0 : Int32)), .val (.int (0 : Int32)), .val .null, .unset] [(.int (0 : Int32))])) _
    refine XS.ifNo X1.here hx rfl (hb hby d_jdk_42_method_149_5) rfl ((if0 _ _).trans (teq (by decide)).2) ?_
    show Steps p.tables e below (T1.setTop (mkF m 8 #[.val (.ref a), .val (.ref b), .val (.int (0 : Int32)), .val (.int (0 : Int32)), .val .null, .unset] [])) _
    refine XS.aloadN X1.here hx rfl (hb hby d_jdk_42_method_149_8) rfl rfl ?_
    show Steps p.tables e below (T1.setTop (mkF m 9 #[.val (.ref a), .val (.ref b), .val (.int (0 : Int32)), .val (.int (0 : Int32)), .val .null, .unset] [(.ref a)])) _
    exact k
  rcases M with I | ⟨ca, cb, ck, LL, Ec, Fc, Fv, Vb⟩
  · have hkeep : ∀ (b : Addr) (cl : Cell), Z.heap[b]? = some cl → s.heap[b]? = some cl := fun b cl q => by rw [hh]; exact O.2.2 b cl q
    obtain ⟨ca, T2, h2, k2, cb, ck, X2, e2, E2, hS, hk', hZ, hown, Ec, Fc, Fv, Vb, -, -, -, LL, st2⟩ := ldcSVL X1 hx hZ hown (hw _ (List.mem_of_getElem? (i := 18) rfl)) (fun d hd => hw d ((by decide +kernel : ∀ d ∈ Bundle.stringAtoms, d ∈ tables_1) d hd)) e1 hS hk (Fr.nil _) hkeep I (by simp) hcH hcw (vs := []) (z := 0) ⟨by simp, rfl⟩ (by decide) rfl (g := (mkF m 9 #[.val (.ref a), .val (.ref b), .val (.int (0 : Int32)), .val (.int (0 : Int32)), .val .null, .unset] [(.ref a)])) rfl (hb hby d_jdk_42_method_149_9) (n := 0) (by decide) (by decide) (by decide) (by decide)
    replace E := E.ext E2
    replace F1 := F1.ext E2
    replace F2 := F2.ext E2
    replace O := O.ext E2
    replace hk := Nat.le_trans hk E2.1
    replace KM := KM.ext E2
    replace K := K.ext E2
    replace hk := hk'
    replace Vb : Arv Z h2 cb ck .byte (0 : Int32) (own_bs []) (.int (0 : Int32)) := Vb
    refine own_go (B := T2.setTop (mkF m 11 #[.val (.ref a), .val (.ref b), .val (.int (0 : Int32)), .val (.int (0 : Int32)), .val .null, .unset] [(.ref ca), (.ref a)])) st2 ?_
    have ne_ca : ca ≠ a := Fld.ne Fv F1 (by simp)
    have ne_cb : cb ≠ a := Ne.symm (E.neArv Vb (hw _ (List.mem_of_getElem? (i := 5) rfl)))
    obtain ⟨T3, X3, e3, st3⟩ := getF X2 hx hZ hown (host := "") (Or.inl (hw _ (List.mem_of_getElem? (i := 24) rfl))) Via.refl e2 Fv (g := (mkF m 11 #[.val (.ref a), .val (.ref b), .val (.int (0 : Int32)), .val (.int (0 : Int32)), .val .null, .unset] [(.ref ca), (.ref a)])) rfl rfl (hb hby d_jdk_42_method_149_11)
    refine own_go (B := T3.setTop (mkF m 14 #[.val (.ref a), .val (.ref b), .val (.int (0 : Int32)), .val (.int (0 : Int32)), .val .null, .unset] [(.ref cb), (.ref a)])) st3 ?_
    obtain ⟨T4, h4, X4, e4, W4, st4⟩ := putF X3 hx hZ hown (host := "") (Or.inl (hw _ (List.mem_of_getElem? (i := 24) rfl))) Via.refl e3 F1 E (Or.inr ⟨(hw _ (List.mem_of_getElem? (i := 20) rfl)), rfl, hnm⟩) (hw _ (List.mem_of_getElem? (i := 5) rfl)) (ty := (.array .byte)) (by decide) rfl rfl (g := (mkF m 14 #[.val (.ref a), .val (.ref b), .val (.int (0 : Int32)), .val (.int (0 : Int32)), .val .null, .unset] [(.ref cb), (.ref a)])) rfl rfl (hb hby d_jdk_42_method_149_14)
    have Fw4 := F1.same W4
    replace E := E.wr W4
    clear F1
    replace F2 := F2.other W4 (Or.inr (slot_ne (Or.inr (hw _ (List.mem_of_getElem? (i := 21) rfl))) (Or.inr (hw _ (List.mem_of_getElem? (i := 20) rfl))) (by decide) (t := .byte) (t' := (.array .byte)) (by decide) (by decide)))
    replace Ec := Ec.wr W4
    replace Fc := Fc.other W4 (Or.inl ne_ca)
    replace Fv := Fv.other W4 (Or.inl ne_ca)
    replace Vb := Vb.other W4 ne_cb
    replace O := O.wr W4 ga
    replace hk := Nat.le_trans hk (Keep.of_wr W4).1
    replace K := K.wr W4 (Or.inl (List.mem_of_getElem? (i := 0) rfl))
    replace N := Fr.snoc X4 N ga
    refine own_go (B := T4.setTop (mkF m 17 #[.val (.ref a), .val (.ref b), .val (.int (0 : Int32)), .val (.int (0 : Int32)), .val .null, .unset] [])) st4 ?_
    refine own_go (B := T4.setTop (mkF m 18 #[.val (.ref a), .val (.ref b), .val (.int (0 : Int32)), .val (.int (0 : Int32)), .val .null, .unset] [(.ref a)])) (fun t k => ?_) ?_
    · show Steps p.tables e below (T4.setTop (mkF m 17 #[.val (.ref a), .val (.ref b), .val (.int (0 : Int32)), .val (.int (0 : Int32)), .val .null, .unset] [])) _
      refine XS.aloadN X4.here hx rfl (hb hby d_jdk_42_method_149_17) rfl rfl ?_
      show Steps p.tables e below (T4.setTop (mkF m 18 #[.val (.ref a), .val (.ref b), .val (.int (0 : Int32)), .val (.int (0 : Int32)), .val .null, .unset] [(.ref a)])) _
      exact k
    have st5 := ldcAgain X4 hx hZ hown (hw _ (List.mem_of_getElem? (i := 18) rfl)) LL (g := (mkF m 18 #[.val (.ref a), .val (.ref b), .val (.int (0 : Int32)), .val (.int (0 : Int32)), .val .null, .unset] [(.ref a)])) rfl (hb hby d_jdk_42_method_149_18)
    refine own_go (B := T4.setTop (mkF m 20 #[.val (.ref a), .val (.ref b), .val (.int (0 : Int32)), .val (.int (0 : Int32)), .val .null, .unset] [(.ref ca), (.ref a)])) st5 ?_
    obtain ⟨T6, X6, e6, st6⟩ := getF X4 hx hZ hown (host := "") (Or.inl (hw _ (List.mem_of_getElem? (i := 25) rfl))) Via.refl e4 Fc (g := (mkF m 20 #[.val (.ref a), .val (.ref b), .val (.int (0 : Int32)), .val (.int (0 : Int32)), .val .null, .unset] [(.ref ca), (.ref a)])) rfl rfl (hb hby d_jdk_42_method_149_20)
    refine own_go (B := T6.setTop (mkF m 23 #[.val (.ref a), .val (.ref b), .val (.int (0 : Int32)), .val (.int (0 : Int32)), .val .null, .unset] [(.int (0 : Int32)), (.ref a)])) st6 ?_
    obtain ⟨T7, h7, X7, e7, W7, st7⟩ := putFN X6 hx hZ hown (hw _ (List.mem_of_getElem? (i := 25) rfl)) Via.refl e6 F2 E (Or.inr ⟨(hw _ (List.mem_of_getElem? (i := 21) rfl)), rfl, hnm⟩) (hw _ (List.mem_of_getElem? (i := 5) rfl)) (ty := .byte) (v' := (.int (0 : Int32))) (by decide) rfl rfl (g := (mkF m 23 #[.val (.ref a), .val (.ref b), .val (.int (0 : Int32)), .val (.int (0 : Int32)), .val .null, .unset] [(.int (0 : Int32)), (.ref a)])) rfl rfl (hb hby d_jdk_42_method_149_23)
    have Fw7 := F2.same W7
    replace E := E.wr W7
    clear F2
    replace Ec := Ec.wr W7
    replace Fc := Fc.other W7 (Or.inl ne_ca)
    replace Fv := Fv.other W7 (Or.inl ne_ca)
    replace Vb := Vb.other W7 ne_cb
    replace Fw4 := Fw4.other W7 (Or.inr (slot_ne (Or.inr (hw _ (List.mem_of_getElem? (i := 20) rfl))) (Or.inr (hw _ (List.mem_of_getElem? (i := 21) rfl))) (by decide) (t := (.array .byte)) (t' := .byte) (by decide) (by decide)))
    replace O := O.wr W7 ga
    replace hk := Nat.le_trans hk (Keep.of_wr W7).1
    replace K := K.wr W7 (Or.inl (List.mem_of_getElem? (i := 0) rfl))
    replace N := Fr.snoc X7 N ga
    refine own_go (B := T7.setTop (mkF m 26 #[.val (.ref a), .val (.ref b), .val (.int (0 : Int32)), .val (.int (0 : Int32)), .val .null, .unset] [])) st7 ?_
    have M : Em Z T2.vm h7 := Or.inr ⟨ca, cb, ck, LL, Ec, Fc, Fv, Vb⟩
    have KM : Keep h7 h7 [] := Keep.refl _ _
    obtain ⟨fs, hr, hrun, hended, hEnd⟩ := X7.leaveW hS (by rw [e7]; exact hk) (v := none) (fun _ => rfl)
    refine ⟨_, _, X7.returnOut hx Bd.returns (hb hby d_jdk_42_method_149_26) hr, hfin _ _ ⟨hrun, hended, _, _, rfl, ?_, ⟨hEnd.1, hEnd.2.1, hEnd.2.2.1, hEnd.2.2.2.mono (by decide) (by decide)⟩, own_emR e7 (Em.warm M X7.warmed)⟩⟩
    show QSE2 Z a b h0 n0 _ T7.heap _
    rw [e7]
    exact ⟨cb, ck, rfl, N, K, Fw7, Fw4, Vb⟩
  · replace LL : Lit (s.setVm s.vm) "java/lang/String" 7 ca := LL
    have st9 := ldcAgain X1 hx hZ hown (hw _ (List.mem_of_getElem? (i := 18) rfl)) LL (g := (mkF m 9 #[.val (.ref a), .val (.ref b), .val (.int (0 : Int32)), .val (.int (0 : Int32)), .val .null, .unset] [(.ref a)])) rfl (hb hby d_jdk_42_method_149_9)
    refine own_go (B := T1.setTop (mkF m 11 #[.val (.ref a), .val (.ref b), .val (.int (0 : Int32)), .val (.int (0 : Int32)), .val .null, .unset] [(.ref ca), (.ref a)])) st9 ?_
    have ne_ca : ca ≠ a := Fld.ne Fv F1 (by simp)
    have ne_cb : cb ≠ a := Ne.symm (E.neArv Vb (hw _ (List.mem_of_getElem? (i := 5) rfl)))
    obtain ⟨T10, X10, e10, st10⟩ := getF X1 hx hZ hown (host := "") (Or.inl (hw _ (List.mem_of_getElem? (i := 24) rfl))) Via.refl e1 Fv (g := (mkF m 11 #[.val (.ref a), .val (.ref b), .val (.int (0 : Int32)), .val (.int (0 : Int32)), .val .null, .unset] [(.ref ca), (.ref a)])) rfl rfl (hb hby d_jdk_42_method_149_11)
    refine own_go (B := T10.setTop (mkF m 14 #[.val (.ref a), .val (.ref b), .val (.int (0 : Int32)), .val (.int (0 : Int32)), .val .null, .unset] [(.ref cb), (.ref a)])) st10 ?_
    obtain ⟨T11, h11, X11, e11, W11, st11⟩ := putF X10 hx hZ hown (host := "") (Or.inl (hw _ (List.mem_of_getElem? (i := 24) rfl))) Via.refl e10 F1 E (Or.inr ⟨(hw _ (List.mem_of_getElem? (i := 20) rfl)), rfl, hnm⟩) (hw _ (List.mem_of_getElem? (i := 5) rfl)) (ty := (.array .byte)) (by decide) rfl rfl (g := (mkF m 14 #[.val (.ref a), .val (.ref b), .val (.int (0 : Int32)), .val (.int (0 : Int32)), .val .null, .unset] [(.ref cb), (.ref a)])) rfl rfl (hb hby d_jdk_42_method_149_14)
    have Fw11 := F1.same W11
    replace E := E.wr W11
    clear F1
    replace F2 := F2.other W11 (Or.inr (slot_ne (Or.inr (hw _ (List.mem_of_getElem? (i := 21) rfl))) (Or.inr (hw _ (List.mem_of_getElem? (i := 20) rfl))) (by decide) (t := .byte) (t' := (.array .byte)) (by decide) (by decide)))
    replace Ec := Ec.wr W11
    replace Fc := Fc.other W11 (Or.inl ne_ca)
    replace Fv := Fv.other W11 (Or.inl ne_ca)
    replace Vb := Vb.other W11 ne_cb
    replace O := O.wr W11 ga
    replace hk := Nat.le_trans hk (Keep.of_wr W11).1
    replace K := K.wr W11 (Or.inl (List.mem_of_getElem? (i := 0) rfl))
    replace N := Fr.snoc X11 N ga
    refine own_go (B := T11.setTop (mkF m 17 #[.val (.ref a), .val (.ref b), .val (.int (0 : Int32)), .val (.int (0 : Int32)), .val .null, .unset] [])) st11 ?_
    refine own_go (B := T11.setTop (mkF m 18 #[.val (.ref a), .val (.ref b), .val (.int (0 : Int32)), .val (.int (0 : Int32)), .val .null, .unset] [(.ref a)])) (fun t k => ?_) ?_
    · show Steps p.tables e below (T11.setTop (mkF m 17 #[.val (.ref a), .val (.ref b), .val (.int (0 : Int32)), .val (.int (0 : Int32)), .val .null, .unset] [])) _
      refine XS.aloadN X11.here hx rfl (hb hby d_jdk_42_method_149_17) rfl rfl ?_
      show Steps p.tables e below (T11.setTop (mkF m 18 #[.val (.ref a), .val (.ref b), .val (.int (0 : Int32)), .val (.int (0 : Int32)), .val .null, .unset] [(.ref a)])) _
      exact k
    have st12 := ldcAgain X11 hx hZ hown (hw _ (List.mem_of_getElem? (i := 18) rfl)) LL (g := (mkF m 18 #[.val (.ref a), .val (.ref b), .val (.int (0 : Int32)), .val (.int (0 : Int32)), .val .null, .unset] [(.ref a)])) rfl (hb hby d_jdk_42_method_149_18)
    refine own_go (B := T11.setTop (mkF m 20 #[.val (.ref a), .val (.ref b), .val (.int (0 : Int32)), .val (.int (0 : Int32)), .val .null, .unset] [(.ref ca), (.ref a)])) st12 ?_
    obtain ⟨T13, X13, e13, st13⟩ := getF X11 hx hZ hown (host := "") (Or.inl (hw _ (List.mem_of_getElem? (i := 25) rfl))) Via.refl e11 Fc (g := (mkF m 20 #[.val (.ref a), .val (.ref b), .val (.int (0 : Int32)), .val (.int (0 : Int32)), .val .null, .unset] [(.ref ca), (.ref a)])) rfl rfl (hb hby d_jdk_42_method_149_20)
    refine own_go (B := T13.setTop (mkF m 23 #[.val (.ref a), .val (.ref b), .val (.int (0 : Int32)), .val (.int (0 : Int32)), .val .null, .unset] [(.int (0 : Int32)), (.ref a)])) st13 ?_
    obtain ⟨T14, h14, X14, e14, W14, st14⟩ := putFN X13 hx hZ hown (hw _ (List.mem_of_getElem? (i := 25) rfl)) Via.refl e13 F2 E (Or.inr ⟨(hw _ (List.mem_of_getElem? (i := 21) rfl)), rfl, hnm⟩) (hw _ (List.mem_of_getElem? (i := 5) rfl)) (ty := .byte) (v' := (.int (0 : Int32))) (by decide) rfl rfl (g := (mkF m 23 #[.val (.ref a), .val (.ref b), .val (.int (0 : Int32)), .val (.int (0 : Int32)), .val .null, .unset] [(.int (0 : Int32)), (.ref a)])) rfl rfl (hb hby d_jdk_42_method_149_23)
    have Fw14 := F2.same W14
    replace E := E.wr W14
    clear F2
    replace Ec := Ec.wr W14
    replace Fc := Fc.other W14 (Or.inl ne_ca)
    replace Fv := Fv.other W14 (Or.inl ne_ca)
    replace Vb := Vb.other W14 ne_cb
    replace Fw11 := Fw11.other W14 (Or.inr (slot_ne (Or.inr (hw _ (List.mem_of_getElem? (i := 20) rfl))) (Or.inr (hw _ (List.mem_of_getElem? (i := 21) rfl))) (by decide) (t := (.array .byte)) (t' := .byte) (by decide) (by decide)))
    replace O := O.wr W14 ga
    replace hk := Nat.le_trans hk (Keep.of_wr W14).1
    replace K := K.wr W14 (Or.inl (List.mem_of_getElem? (i := 0) rfl))
    replace N := Fr.snoc X14 N ga
    refine own_go (B := T14.setTop (mkF m 26 #[.val (.ref a), .val (.ref b), .val (.int (0 : Int32)), .val (.int (0 : Int32)), .val .null, .unset] [])) st14 ?_
    have M : Em Z s.vm h14 := Or.inr ⟨ca, cb, ck, LL, Ec, Fc, Fv, Vb⟩
    have KM : Keep h14 h14 [] := Keep.refl _ _
    obtain ⟨fs, hr, hrun, hended, hEnd⟩ := X14.leaveW hS (by rw [e14]; exact hk) (v := none) (fun _ => rfl)
    refine ⟨_, _, X14.returnOut hx Bd.returns (hb hby d_jdk_42_method_149_26) hr, hfin _ _ ⟨hrun, hended, _, _, rfl, ?_, ⟨hEnd.1, hEnd.2.1, hEnd.2.2.1, hEnd.2.2.2.mono (by decide) (by decide)⟩, own_emR e14 (Em.warm M X14.warmed)⟩⟩
    show QSE2 Z a b h0 n0 _ T14.heap _
    rw [e14]
    exact ⟨cb, ck, rfl, N, K, Fw14, Fw11, Vb⟩
def QSE1 (Z : State) (a : Addr) (b : Addr) (kc : ClassId) (vs : List Value) (dv : Value) (h0 : Heap) (n0 : Nat) (v : Option Value) (h : Heap) (L : List Loc) : Prop := ∃ t : Addr, ∃ k : ClassId, v = none ∧ Fr n0 L ∧ Keep h0 h [a] ∧ Fld Z h a "java/lang/String" "coder" "B" (.int (0 : Int32)) ∧ Fld Z h a "java/lang/String" "value" "[B" (.ref t) ∧ Arv Z h t k .byte (0 : Int32) (own_bs []) (.int (0 : Int32))
theorem ef_SE1 (m : MethodId) (a : Addr) (b : Addr) : entryFrame m #[(.ref a), (.ref b)] 2 = mkF m 0 #[.val (.ref a), .val (.ref b)] [] := by first | (simp [entryFrame, mkF, argsToLocals, Value.category]; done) | rfl | (rfl)
set_option maxRecDepth 65536 in
set_option maxHeartbeats 40000000 in
theorem rmSE1 (l : Launch) (Z : State) (a0 : Array Value) (hw : ∀ d ∈ tables_1, d.before a0 Z = true) (ws : List Jvm.Cond) (a : Addr) (b : Addr) (kc : ClassId) (vs : List Value) (dv : Value) (h0 : Heap) (n0 : Nat) (O : Old Z n0 h0) (E : Exa Z h0 a "java/lang/String") (F1 : Fld Z h0 a "java/lang/String" "value" "[B" .null) (F2 : Fld Z h0 a "java/lang/String" "coder" "B" (.int (0 : Int32))) (ga : n0 ≤ a) (V : Arv Z h0 b kc .char (0 : Int32) vs dv) (hcH : Jvm.Lit.constHeld Z "java/lang/String" 7) (hcw : Jvm.Lit.compactW.before a0 Z = true) :
    MetFree l (⟨"java/lang/String", "<init>", "([C)V"⟩ : MethodName) (head1 (Jvm.Cond.code (⟨"java/lang/String", "<init>", "([C)V"⟩ : MethodName) jdk_42_method_3_code 2 none :: ws) ({ frames := 2, cells := 2, slots := 4, locals := 29 } : Room)) (fun as_ U => as_ = #[(.ref a), (.ref b)] ∧ Z.Warmed39 U.vm ∧ U.heap = h0 ∧ Em Z U.vm h0) (fun _ _ _ _ _ => True) (fun _ U oo_ U' => ∃ vv_ LL_, oo_ = .returned vv_ ∧ QSE1 Z a b kc vs dv h0 n0 vv_ U'.heap LL_ ∧ ReturnedEndW U oo_ U' LL_ ({ frames := 2, cells := 2, slots := 4, locals := 29 } : Room).cells ({ frames := 2, cells := 2, slots := 4, locals := 29 } : Room).slots ∧ Em Z U'.vm U'.heap) := by
  refine MetFree.of_bodySF (plainFor_of_name pn_1) hisR ?_
  intro p e s m args below meth c s₁ Bd hml0 hP hK
  obtain ⟨rfl, hZ, hh, M⟩ := hP
  have hx := Bd.exec
  have hby := Bd.bytes
  have hml : c.maxLocals = 2 := hml0
  have hown : s.vm.findClass "java/lang/String" = some m.cls := findClass_of_methodNamed Bd.named
  have hnm := (name_of_methodNamed Bd.named Bd.method).1
  have X0 : Stand p l e ({ frames := 2, cells := 2, slots := 4, locals := 29 } : Room) (s.setVm s.vm) m #[(.ref a), (.ref b)] below meth c s₁ [] 0 0 := Stand.of_body Bd
  have e0 : s₁.heap = h0 := by rw [← hh, Bd.state]; rfl
  have N := Fr.nil n0
  have hown : (s.setVm s.vm).vm.findClass "java/lang/String" = some m.cls := hown
  have hZ : Z.Warmed39 (s.setVm s.vm).vm := hZ
  have hS : s.Since s.vm h0.size := (State.WarmedH.refl s).since _
  have hk : h0.size ≤ h0.size := Nat.le_refl _
  have K : Keep h0 h0 [a] := Keep.refl h0 _
  refine own_go (B := s₁.setTop (mkF m 0 #[.val (.ref a), .val (.ref b)] [])) (fun t k => castTop (ef_SE1 m a b) k) ?_
  have KM : Keep h0 h0 [] := Keep.refl h0 _
  refine own_abs (fun P hfin => ?_)
  refine own_go (B := s₁.setTop (mkF m 4 #[.val (.ref a), .val (.ref b)] [(.ref b), (.int (0 : Int32)), (.ref b), (.ref a)])) (fun t k => ?_) ?_
  · show Steps p.tables e below (s₁.setTop (mkF m 0 #[.val (.ref a), .val (.ref b)] [])) _
    refine XS.aloadN X0.here hx rfl (hb hby d_jdk_42_method_3_0) rfl rfl ?_
    show Steps p.tables e below (s₁.setTop (mkF m 1 #[.val (.ref a), .val (.ref b)] [(.ref a)])) _
    refine XS.aloadN X0.here hx rfl (hb hby d_jdk_42_method_3_1) rfl rfl ?_
    show Steps p.tables e below (s₁.setTop (mkF m 2 #[.val (.ref a), .val (.ref b)] [(.ref b), (.ref a)])) _
    refine XS.iconst X0.here hx rfl (hb hby d_jdk_42_method_3_2) ?_
    show Steps p.tables e below (s₁.setTop (mkF m 3 #[.val (.ref a), .val (.ref b)] [(.int (0 : Int32)), (.ref b), (.ref a)])) _
    refine XS.aloadN X0.here hx rfl (hb hby d_jdk_42_method_3_3) rfl rfl ?_
    show Steps p.tables e below (s₁.setTop (mkF m 4 #[.val (.ref a), .val (.ref b)] [(.ref b), (.int (0 : Int32)), (.ref b), (.ref a)])) _
    exact k
  have st1 : ∀ target, Steps p.tables e below (s₁.setTop (mkF m 5 #[.val (.ref a), .val (.ref b)] [(.int (0 : Int32)), (.int (0 : Int32)), (.ref b), (.ref a)])) target → Steps p.tables e below (s₁.setTop (mkF m 4 #[.val (.ref a), .val (.ref b)] [(.ref b), (.int (0 : Int32)), (.ref b), (.ref a)])) target := by
    obtain ⟨cl, Ar, q, Sz, Nn, Hs, Gt⟩ := V
    intro target kt
    refine X0.arraylength hx (by rw [e0]; exact Ar.1) (State.isArrayOf_alike hZ.alike Ar.2.1) (g := (mkF m 4 #[.val (.ref a), .val (.ref b)] [(.ref b), (.int (0 : Int32)), (.ref b), (.ref a)])) rfl rfl (hb hby d_jdk_42_method_3_4) _ ?_
    rw [len_of Sz Nn]
    exact kt
  refine own_go (B := s₁.setTop (mkF m 5 #[.val (.ref a), .val (.ref b)] [(.int (0 : Int32)), (.int (0 : Int32)), (.ref b), (.ref a)])) st1 ?_
  refine own_go (B := s₁.setTop (mkF m 6 #[.val (.ref a), .val (.ref b)] [.null, (.int (0 : Int32)), (.int (0 : Int32)), (.ref b), (.ref a)])) (fun t k => ?_) ?_
  · show Steps p.tables e below (s₁.setTop (mkF m 5 #[.val (.ref a), .val (.ref b)] [(.int (0 : Int32)), (.int (0 : Int32)), (.ref b), (.ref a)])) _
    refine XS.aconstNull X0.here hx rfl (hb hby d_jdk_42_method_3_5) ?_
    show Steps p.tables e below (s₁.setTop (mkF m 6 #[.val (.ref a), .val (.ref b)] [.null, (.int (0 : Int32)), (.int (0 : Int32)), (.ref b), (.ref a)])) _
    exact k
  clear V
  -- pc 6: java/lang/String.<init>
  obtain ⟨_, _, ⟨T2, L2, k2, n2⟩, -, X2, hSq2, hgq2, ⟨Lc2, hQ2, l2, y2, z2⟩, st2⟩ := X0.specialBackS hx (y := (⟨"java/lang/String", "<init>", "([CIILjava/lang/Void;)V"⟩ : MethodName)) rfl hown (mvT hZ (hw _ (List.mem_of_getElem? (i := 11) rfl))) (mvT hZ (hw _ (List.mem_of_getElem? (i := 12) rfl))) (mvT hZ (hw _ (List.mem_of_getElem? (i := 14) rfl))) (by decide) (own_backOfE (W := 0) (rmSE2 l Z a0 hw [] a b h0 n0 O E F1 F2 ga hcH hcw) hZ (hw _ (List.mem_of_getElem? (i := 14) rfl)) (hw _ (List.mem_of_getElem? (i := 6) rfl)) (by decide) (by decide)) (g := (mkF m 6 #[.val (.ref a), .val (.ref b)] [.null, (.int (0 : Int32)), (.int (0 : Int32)), (.ref b), (.ref a)])) rfl (by rw [hml]; rfl) (Steps.refl _) (a := a) (argsL := [(.ref b), (.int (0 : Int32)), (.int (0 : Int32)), .null]) (rest := []) (lenOf pd_0 rfl) rfl (by show 2 * 0 + _ ≤ _; exact Nat.le_of_eq rfl) (hb hby d_jdk_42_method_3_6) (fun _ hWm => ⟨rfl, e0, (by decide : 0 + 2 ≤ _), (by decide : 0 + 4 ≤ _), Em.warm M hWm⟩)
  dsimp only [Pt.U, Pt.locs, Pt.cells, Pt.slots] at X2 l2 y2 z2 st2 hQ2 hSq2 hgq2
  subst l2 y2 z2
  obtain ⟨X2, hS, hZ, hown⟩ := rebS hS (by rw [e0]; exact hk) X2 hSq2 hgq2 hZ hown
  obtain ⟨⟨t2, k2, rfl, Nq2, Kq2, Gq2_0, Gq2_1, Gq2_2⟩, M⟩ := hQ2
  replace N := Fr.app N Nq2
  replace E := E.keep Kq2
  clear F1
  clear F2
  replace O := O.keep Kq2 (allS ga all0)
  replace K := K.trans Kq2 (allS (Or.inl (List.mem_of_getElem? (i := 0) rfl)) all0)
  have hk : T2.heap.size ≤ T2.heap.size := Nat.le_refl _
  have KM : Keep T2.heap T2.heap [] := Keep.refl _ _
  refine own_go (B := T2.setTop (mkF m 9 #[.val (.ref a), .val (.ref b)] [])) (fun t k => st2.trans k) ?_
  obtain ⟨fs, hr, hrun, hended, hEnd⟩ := X2.leaveW hS hk (v := none) (fun _ => rfl)
  refine ⟨_, _, X2.returnOut hx Bd.returns (hb hby d_jdk_42_method_3_9) hr, hfin _ _ ⟨hrun, hended, _, _, rfl, ?_, ⟨hEnd.1, hEnd.2.1, hEnd.2.2.1, hEnd.2.2.2.mono (by decide) (by decide)⟩, own_emR rfl (Em.warm M X2.warmed)⟩⟩
  show QSE1 Z a b kc vs dv h0 n0 _ T2.heap _
  exact ⟨t2, k2, rfl, N, K, Gq2_0, Gq2_1, Gq2_2⟩
def QStr (Z : State) (p1 : Int32) (p2 : Int32) (p3 : Int32) (zc : Int32) (h0 : Heap) (n0 : Nat) (v : Option Value) (h : Heap) (L : List Loc) : Prop := ∃ r : Addr, ∃ t : Addr, ∃ k : ClassId, ∃ cs : List Int32, v = some (.ref r) ∧ Fr n0 L ∧ Keep h0 h [] ∧ h0.size ≤ r ∧ Exa Z h r "java/lang/String" ∧ Fld Z h r "java/lang/String" "coder" "B" (.int (0 : Int32)) ∧ Fld Z h r "java/lang/String" "value" "[B" (.ref t) ∧ Arv Z h t k .byte (Int32.ofNat cs.length) (own_bs cs) (.int (0 : Int32)) ∧ (cs = own_cs p3 p1 p2) ∧ (∀ c ∈ cs, ¬ c < 0 ∧ ¬ (255 : Int32) < c) ∧ (cs.length ≤ 4000)
theorem ef_Str (m : MethodId) (p1 : Int32) (p2 : Int32) (p3 : Int32) : entryFrame m #[(.int p1), (.int p2), (.int p3)] 3 = mkF m 0 #[.val (.int p1), .val (.int p2), .val (.int p3)] [] := by first | (simp [entryFrame, mkF, argsToLocals, Value.category]; done) | rfl | (rfl)
set_option maxRecDepth 65536 in
set_option maxHeartbeats 40000000 in
theorem rmStr (l : Launch) (Z : State) (a0 : Array Value) (hw : ∀ d ∈ tables_1, d.before a0 Z = true) (ws : List Jvm.Cond) (p1 : Int32) (p2 : Int32) (p3 : Int32) (zc : Int32) (h0 : Heap) (n0 : Nat) (O : Old Z n0 h0) (S_C : Sta Z Z.heap "java/lang/String" "COMPACT_STRINGS" "Z" (.int zc)) (hcs : ¬ zc = (0 : Int32)) (hcH : Jvm.Lit.constHeld Z "java/lang/String" 7) (hcw : Jvm.Lit.compactW.before a0 Z = true) (hb1 : ¬ p1 < 0 ∧ ¬ (255 : Int32) < p1) (hb2 : ¬ p2 < 0 ∧ ¬ (255 : Int32) < p2) :
    MetFree l (⟨"org/bindery/DocumentElementIsPinLaw", "str", "(III)Ljava/lang/String;"⟩ : MethodName) (head1 (Jvm.Cond.code (⟨"org/bindery/DocumentElementIsPinLaw", "str", "(III)Ljava/lang/String;"⟩ : MethodName) method_2_code 3 (some (.object "java/lang/String")) :: ws) ({ frames := 4, cells := 4, slots := 8, locals := 66 } : Room)) (fun as_ U => as_ = #[(.int p1), (.int p2), (.int p3)] ∧ Z.Warmed39 U.vm ∧ U.heap = h0 ∧ Em Z U.vm h0) (fun _ _ _ _ _ => True) (fun _ U oo_ U' => ∃ vv_ LL_, oo_ = .returned vv_ ∧ QStr Z p1 p2 p3 zc h0 n0 vv_ U'.heap LL_ ∧ ReturnedEndW U oo_ U' LL_ ({ frames := 4, cells := 4, slots := 8, locals := 66 } : Room).cells ({ frames := 4, cells := 4, slots := 8, locals := 66 } : Room).slots ∧ Em Z U'.vm U'.heap) := by
  refine MetFree.of_bodySF (plainFor_of_name pn_2) hisR ?_
  intro p e s m args below meth c s₁ Bd hml0 hP hK
  obtain ⟨rfl, hZ, hh, M⟩ := hP
  have hx := Bd.exec
  have hby := Bd.bytes
  have hml : c.maxLocals = 3 := hml0
  have hown : s.vm.findClass "org/bindery/DocumentElementIsPinLaw" = some m.cls := findClass_of_methodNamed Bd.named
  have hnm := (name_of_methodNamed Bd.named Bd.method).1
  have X0 : Stand p l e ({ frames := 4, cells := 4, slots := 8, locals := 66 } : Room) (s.setVm s.vm) m #[(.int p1), (.int p2), (.int p3)] below meth c s₁ [] 0 0 := Stand.of_body Bd
  have e0 : s₁.heap = h0 := by rw [← hh, Bd.state]; rfl
  have N := Fr.nil n0
  have hown : (s.setVm s.vm).vm.findClass "org/bindery/DocumentElementIsPinLaw" = some m.cls := hown
  have hZ : Z.Warmed39 (s.setVm s.vm).vm := hZ
  have hS : s.Since s.vm h0.size := (State.WarmedH.refl s).since _
  have hk : h0.size ≤ h0.size := Nat.le_refl _
  have K : Keep h0 h0 [] := Keep.refl h0 _
  refine own_go (B := s₁.setTop (mkF m 0 #[.val (.int p1), .val (.int p2), .val (.int p3)] [])) (fun t k => castTop (ef_Str m p1 p2 p3) k) ?_
  have KM : Keep h0 h0 [] := Keep.refl h0 _
  refine own_abs (fun P hfin => ?_)
  refine own_go (B := s₁.setTop (mkF m 1 #[.val (.int p1), .val (.int p2), .val (.int p3)] [(.int p3)])) (fun t k => ?_) ?_
  · show Steps p.tables e below (s₁.setTop (mkF m 0 #[.val (.int p1), .val (.int p2), .val (.int p3)] [])) _
    refine XS.iloadN X0.here hx rfl (hb hby d_method_2_0) rfl ?_
    show Steps p.tables e below (s₁.setTop (mkF m 1 #[.val (.int p1), .val (.int p2), .val (.int p3)] [(.int p3)])) _
    exact k
  by_cases l0 : p3 = (0 : Int32)
  · refine own_go (B := s₁.setTop (mkF m 4 #[.val (.int p1), .val (.int p2), .val (.int p3)] [])) (fun t k => ?_) ?_
    · show Steps p.tables e below (s₁.setTop (mkF m 1 #[.val (.int p1), .val (.int p2), .val (.int p3)] [(.int p3)])) _
      refine XS.ifNo X0.here hx rfl (hb hby d_method_2_1) rfl ((if0 _ _).trans (teq l0).2) ?_
      show Steps p.tables e below (s₁.setTop (mkF m 4 #[.val (.int p1), .val (.int p2), .val (.int p3)] [])) _
      exact k
    obtain ⟨T1, h1, X1, e1, E1, A1, D1, -, st1⟩ := newO X0 hx hZ hown (hw _ (List.mem_of_getElem? (i := 4) rfl)) (hw _ (List.mem_of_getElem? (i := 5) rfl)) (hw _ (List.mem_of_getElem? (i := 6) rfl)) e0 (g := (mkF m 4 #[.val (.int p1), .val (.int p2), .val (.int p3)] [])) rfl (hb hby d_method_2_4) (by decide) (by decide)
    obtain ⟨b1, g1⟩ : ∃ z, z = h0.size := ⟨_, rfl⟩
    rw [← g1] at A1 D1 st1
    have g_b1 : n0 ≤ b1 := Nat.le_trans (own_oldsz O) (Nat.le_of_eq g1.symm)
    have m_b1_1 : h0.size ≤ b1 := Nat.le_trans KM.1 (Nat.le_of_eq g1.symm)
    have s_b1 : h0.size ≤ b1 := Nat.le_trans K.1 (Nat.le_of_eq g1.symm)
    replace O := O.ext E1
    replace hk := Nat.le_trans hk E1.1
    replace KM := KM.ext E1
    replace K := K.ext E1
    have F1_value : Fld Z h1 b1 "java/lang/String" "value" "[B" .null := D1 (Or.inr (hw _ (List.mem_of_getElem? (i := 20) rfl))) (ty := (.array .byte)) (by decide)
    have F1_coder : Fld Z h1 b1 "java/lang/String" "coder" "B" (.int (0 : Int32)) := D1 (Or.inr (hw _ (List.mem_of_getElem? (i := 21) rfl))) (ty := .byte) (by decide)
    refine own_go (B := T1.setTop (mkF m 7 #[.val (.int p1), .val (.int p2), .val (.int p3)] [(.ref b1)])) st1 ?_
    refine own_go (B := T1.setTop (mkF m 9 #[.val (.int p1), .val (.int p2), .val (.int p3)] [(.int (0 : Int32)), (.ref b1), (.ref b1)])) (fun t k => ?_) ?_
    · show Steps p.tables e below (T1.setTop (mkF m 7 #[.val (.int p1), .val (.int p2), .val (.int p3)] [(.ref b1)])) _
      refine XS.dup X1.here hx rfl (hb hby d_method_2_7) rfl rfl ?_
      show Steps p.tables e below (T1.setTop (mkF m 8 #[.val (.int p1), .val (.int p2), .val (.int p3)] [(.ref b1), (.ref b1)])) _
      refine XS.iconst X1.here hx rfl (hb hby d_method_2_8) ?_
      show Steps p.tables e below (T1.setTop (mkF m 9 #[.val (.int p1), .val (.int p2), .val (.int p3)] [(.int (0 : Int32)), (.ref b1), (.ref b1)])) _
      exact k
    obtain ⟨T2, h2, k2, X2, e2, E2, A2, G2, st2⟩ := newPE X1 hx hZ (hw _ (List.mem_of_getElem? (i := 7) rfl)) e1 (g := (mkF m 9 #[.val (.int p1), .val (.int p2), .val (.int p3)] [(.int (0 : Int32)), (.ref b1), (.ref b1)])) rfl (hb hby d_method_2_9) rfl (by decide) (cap := 0) (by decide) (by decide) (by decide) (by decide) (ad := "[C") (by decide)
    obtain ⟨b2, g2⟩ : ∃ z, z = h1.size := ⟨_, rfl⟩
    rw [← g2] at A2 G2 st2
    have lt_b1_b2 : b1 < b2 := Nat.lt_of_lt_of_le A1.lt (Nat.le_of_eq g2.symm)
    have g_b2 : n0 ≤ b2 := Nat.le_trans (own_oldsz O) (Nat.le_of_eq g2.symm)
    have m_b2_2 : h0.size ≤ b2 := Nat.le_trans KM.1 (Nat.le_of_eq g2.symm)
    have s_b2 : h0.size ≤ b2 := Nat.le_trans K.1 (Nat.le_of_eq g2.symm)
    replace A1 := A1.ext E2
    replace F1_value := F1_value.ext E2
    replace F1_coder := F1_coder.ext E2
    replace O := O.ext E2
    replace hk := Nat.le_trans hk E2.1
    replace KM := KM.ext E2
    replace K := K.ext E2
    have V2 : Arv Z h2 b2 k2 .char (0 : Int32) [] (.int (0 : Int32)) := (Arv.new A2 (by decide)).pad (pad_rep [] (.int (0 : Int32)) 0)
    refine own_go (B := T2.setTop (mkF m 11 #[.val (.int p1), .val (.int p2), .val (.int p3)] [(.ref b2), (.ref b1), (.ref b1)])) st2 ?_
    -- pc 11: java/lang/String.<init>
    obtain ⟨_, _, ⟨T3, L3, k3, n3⟩, -, X3, hSq3, hgq3, ⟨Lc3, hQ3, l3, y3, z3⟩, st3⟩ := X2.specialBackS hx (y := (⟨"java/lang/String", "<init>", "([C)V"⟩ : MethodName)) rfl hown (mvT hZ (hw _ (List.mem_of_getElem? (i := 8) rfl))) (mvT hZ (hw _ (List.mem_of_getElem? (i := 9) rfl))) (mvT hZ (hw _ (List.mem_of_getElem? (i := 10) rfl))) (by decide) (own_backOfE (W := 1) (rmSE1 l Z a0 hw [] b1 b2 k2 ([]) (.int (0 : Int32)) h2 n0 O A1 F1_value F1_coder g_b1 V2 hcH hcw) hZ (hw _ (List.mem_of_getElem? (i := 10) rfl)) (hw _ (List.mem_of_getElem? (i := 6) rfl)) (by decide) (by decide)) (g := (mkF m 11 #[.val (.int p1), .val (.int p2), .val (.int p3)] [(.ref b2), (.ref b1), (.ref b1)])) rfl (by rw [hml]; rfl) (Steps.refl _) (a := b1) (argsL := [(.ref b2)]) (rest := [(.ref b1)]) (lenOf pd_1 rfl) rfl (by show 2 * 0 + _ ≤ _; exact Nat.le_of_eq rfl) (hb hby d_method_2_11) (fun _ hWm => ⟨rfl, e2, (by decide : 2 + 2 ≤ _), (by decide : 4 + 4 ≤ _), Em.warm (M.keep KM) hWm⟩)
    dsimp only [Pt.U, Pt.locs, Pt.cells, Pt.slots] at X3 l3 y3 z3 st3 hQ3 hSq3 hgq3
    subst l3 y3 z3
    obtain ⟨X3, hS, hZ, hown⟩ := rebS hS (by rw [e2]; exact hk) X3 hSq3 hgq3 hZ hown
    obtain ⟨⟨t3, k3, rfl, Nq3, Kq3, Gq3_0, Gq3_1, Gq3_2⟩, M⟩ := hQ3
    replace N := Fr.app N Nq3
    replace A1 := A1.keep Kq3
    clear F1_value
    clear F1_coder
    replace G2 := G2.keep Kq3
    replace V2 := V2.keep Kq3 (ninS (Nat.ne_of_gt lt_b1_b2) nin0)
    replace O := O.keep Kq3 (allS g_b1 all0)
    replace K := K.trans Kq3 (allS (Or.inr s_b1) all0)
    have hk : T3.heap.size ≤ T3.heap.size := Nat.le_refl _
    have KM : Keep T3.heap T3.heap [] := Keep.refl _ _
    refine own_go (B := T3.setTop (mkF m 14 #[.val (.int p1), .val (.int p2), .val (.int p3)] [(.ref b1)])) (fun t k => st3.trans k) ?_
    obtain ⟨fs, hr, hrun, hended, hEnd⟩ := X3.leaveW hS hk (v := some (.ref b1)) (fun h => by rw [Bd.returns] at h; cases h)
    refine ⟨_, _, own_retA X3 hx rfl Bd.returns rfl (hb hby d_method_2_14) hr, hfin _ _ ⟨hrun, hended, _, _, rfl, ?_, ⟨hEnd.1, hEnd.2.1, hEnd.2.2.1, hEnd.2.2.2.mono (by decide) (by decide)⟩, own_emR rfl (Em.warm M X3.warmed)⟩⟩
    show QStr Z p1 p2 p3 zc h0 n0 _ T3.heap _
    exact ⟨b1, t3, k3, ([] : List Int32), rfl, N, K, s_b1, A1, Gq3_0, Gq3_1, Gq3_2, ((if_pos l0).symm), (by intro c hc; simp at hc), (Nat.le_of_ble_eq_true rfl)⟩
  · refine own_go (B := s₁.setTop (mkF m 17 #[.val (.int p1), .val (.int p2), .val (.int p3)] [(.int (1 : Int32)), (.int p3)])) (fun t k => ?_) ?_
    · show Steps p.tables e below (s₁.setTop (mkF m 1 #[.val (.int p1), .val (.int p2), .val (.int p3)] [(.int p3)])) _
      refine XS.ifYes X0.here hx rfl (pc0 := 1) (pc' := 15) rfl (hb hby d_method_2_1) rfl ((if0 _ _).trans (feq l0).2) (by decide) (by decide) ?_
      show Steps p.tables e below (s₁.setTop (mkF m 15 #[.val (.int p1), .val (.int p2), .val (.int p3)] [])) _
      refine XS.iloadN X0.here hx rfl (hb hby d_method_2_15) rfl ?_
      show Steps p.tables e below (s₁.setTop (mkF m 16 #[.val (.int p1), .val (.int p2), .val (.int p3)] [(.int p3)])) _
      refine XS.iconst X0.here hx rfl (hb hby d_method_2_16) ?_
      show Steps p.tables e below (s₁.setTop (mkF m 17 #[.val (.int p1), .val (.int p2), .val (.int p3)] [(.int (1 : Int32)), (.int p3)])) _
      exact k
    by_cases l1 : p3 = (1 : Int32)
    · refine own_go (B := s₁.setTop (mkF m 20 #[.val (.int p1), .val (.int p2), .val (.int p3)] [])) (fun t k => ?_) ?_
      · show Steps p.tables e below (s₁.setTop (mkF m 17 #[.val (.int p1), .val (.int p2), .val (.int p3)] [(.int (1 : Int32)), (.int p3)])) _
        refine XS.icmpNo X0.here hx rfl (hb hby d_method_2_17) rfl (teq l1).2 ?_
        show Steps p.tables e below (s₁.setTop (mkF m 20 #[.val (.int p1), .val (.int p2), .val (.int p3)] [])) _
        exact k
      obtain ⟨T5, h5, X5, e5, E5, A5, D5, -, st5⟩ := newO X0 hx hZ hown (hw _ (List.mem_of_getElem? (i := 4) rfl)) (hw _ (List.mem_of_getElem? (i := 5) rfl)) (hw _ (List.mem_of_getElem? (i := 6) rfl)) e0 (g := (mkF m 20 #[.val (.int p1), .val (.int p2), .val (.int p3)] [])) rfl (hb hby d_method_2_20) (by decide) (by decide)
      obtain ⟨b5, g5⟩ : ∃ z, z = h0.size := ⟨_, rfl⟩
      rw [← g5] at A5 D5 st5
      have g_b5 : n0 ≤ b5 := Nat.le_trans (own_oldsz O) (Nat.le_of_eq g5.symm)
      have m_b5_5 : h0.size ≤ b5 := Nat.le_trans KM.1 (Nat.le_of_eq g5.symm)
      have s_b5 : h0.size ≤ b5 := Nat.le_trans K.1 (Nat.le_of_eq g5.symm)
      replace O := O.ext E5
      replace hk := Nat.le_trans hk E5.1
      replace KM := KM.ext E5
      replace K := K.ext E5
      have F5_value : Fld Z h5 b5 "java/lang/String" "value" "[B" .null := D5 (Or.inr (hw _ (List.mem_of_getElem? (i := 20) rfl))) (ty := (.array .byte)) (by decide)
      have F5_coder : Fld Z h5 b5 "java/lang/String" "coder" "B" (.int (0 : Int32)) := D5 (Or.inr (hw _ (List.mem_of_getElem? (i := 21) rfl))) (ty := .byte) (by decide)
      refine own_go (B := T5.setTop (mkF m 23 #[.val (.int p1), .val (.int p2), .val (.int p3)] [(.ref b5)])) st5 ?_
      refine own_go (B := T5.setTop (mkF m 25 #[.val (.int p1), .val (.int p2), .val (.int p3)] [(.int (1 : Int32)), (.ref b5), (.ref b5)])) (fun t k => ?_) ?_
      · show Steps p.tables e below (T5.setTop (mkF m 23 #[.val (.int p1), .val (.int p2), .val (.int p3)] [(.ref b5)])) _
        refine XS.dup X5.here hx rfl (hb hby d_method_2_23) rfl rfl ?_
        show Steps p.tables e below (T5.setTop (mkF m 24 #[.val (.int p1), .val (.int p2), .val (.int p3)] [(.ref b5), (.ref b5)])) _
        refine XS.iconst X5.here hx rfl (hb hby d_method_2_24) ?_
        show Steps p.tables e below (T5.setTop (mkF m 25 #[.val (.int p1), .val (.int p2), .val (.int p3)] [(.int (1 : Int32)), (.ref b5), (.ref b5)])) _
        exact k
      obtain ⟨T6, h6, k6, X6, e6, E6, A6, G6, st6⟩ := newPE X5 hx hZ (hw _ (List.mem_of_getElem? (i := 7) rfl)) e5 (g := (mkF m 25 #[.val (.int p1), .val (.int p2), .val (.int p3)] [(.int (1 : Int32)), (.ref b5), (.ref b5)])) rfl (hb hby d_method_2_25) rfl (by decide) (cap := 1) (by decide) (by decide) (by decide) (by decide) (ad := "[C") (by decide)
      obtain ⟨b6, g6⟩ : ∃ z, z = h5.size := ⟨_, rfl⟩
      rw [← g6] at A6 G6 st6
      have lt_b5_b6 : b5 < b6 := Nat.lt_of_lt_of_le A5.lt (Nat.le_of_eq g6.symm)
      have g_b6 : n0 ≤ b6 := Nat.le_trans (own_oldsz O) (Nat.le_of_eq g6.symm)
      have m_b6_6 : h0.size ≤ b6 := Nat.le_trans KM.1 (Nat.le_of_eq g6.symm)
      have s_b6 : h0.size ≤ b6 := Nat.le_trans K.1 (Nat.le_of_eq g6.symm)
      replace A5 := A5.ext E6
      replace F5_value := F5_value.ext E6
      replace F5_coder := F5_coder.ext E6
      replace O := O.ext E6
      replace hk := Nat.le_trans hk E6.1
      replace KM := KM.ext E6
      replace K := K.ext E6
      have V6 : Arv Z h6 b6 k6 .char (1 : Int32) [(.int (0 : Int32))] (.int (0 : Int32)) := (Arv.new A6 (by decide)).pad (pad_rep [] (.int (0 : Int32)) 1)
      refine own_go (B := T6.setTop (mkF m 27 #[.val (.int p1), .val (.int p2), .val (.int p3)] [(.ref b6), (.ref b5), (.ref b5)])) st6 ?_
      refine own_go (B := T6.setTop (mkF m 31 #[.val (.int p1), .val (.int p2), .val (.int p3)] [(.int (p1.toUInt32.toUInt16.toUInt32.toInt32)), (.int (0 : Int32)), (.ref b6), (.ref b6), (.ref b5), (.ref b5)])) (fun t k => ?_) ?_
      · show Steps p.tables e below (T6.setTop (mkF m 27 #[.val (.int p1), .val (.int p2), .val (.int p3)] [(.ref b6), (.ref b5), (.ref b5)])) _
        refine XS.dup X6.here hx rfl (hb hby d_method_2_27) rfl rfl ?_
        show Steps p.tables e below (T6.setTop (mkF m 28 #[.val (.int p1), .val (.int p2), .val (.int p3)] [(.ref b6), (.ref b6), (.ref b5), (.ref b5)])) _
        refine XS.iconst X6.here hx rfl (hb hby d_method_2_28) ?_
        show Steps p.tables e below (T6.setTop (mkF m 29 #[.val (.int p1), .val (.int p2), .val (.int p3)] [(.int (0 : Int32)), (.ref b6), (.ref b6), (.ref b5), (.ref b5)])) _
        refine XS.iloadN X6.here hx rfl (hb hby d_method_2_29) rfl ?_
        show Steps p.tables e below (T6.setTop (mkF m 30 #[.val (.int p1), .val (.int p2), .val (.int p3)] [(.int p1), (.int (0 : Int32)), (.ref b6), (.ref b6), (.ref b5), (.ref b5)])) _
        refine XS.i2c X6.here hx rfl (hb hby d_method_2_30) rfl ?_
        show Steps p.tables e below (T6.setTop (mkF m 31 #[.val (.int p1), .val (.int p2), .val (.int p3)] [(.int (p1.toUInt32.toUInt16.toUInt32.toInt32)), (.int (0 : Int32)), (.ref b6), (.ref b6), (.ref b5), (.ref b5)])) _
        exact k
      rw [(own_i2c hb1)]
      have cp1 : nar .char p1 = p1 := own_i2c hb1
      obtain ⟨cl7, Ar7, q7, Sz7, Nn7, Hs7, Gt7⟩ := V6
      have hin7 : ¬ ((0 : Int32) < 0 ∨ cl7.slots.size ≤ ((0 : Int32)).toNatClampNeg) := inb_of Sz7 ⟨by decide, by decide⟩
      obtain ⟨T7, h7, X7, e7, W7, st7⟩ := stC X6 hx hZ e6 Ar7 (j := (0 : Int32)) hin7 (g := (mkF m 31 #[.val (.int p1), .val (.int p2), .val (.int p3)] [(.int p1), (.int (0 : Int32)), (.ref b6), (.ref b6), (.ref b5), (.ref b5)])) rfl rfl (hb hby d_method_2_31)
      have V7 := Arv.set Ar7 q7 Sz7 Nn7 Hs7 Gt7 (fits_nar_char _) W7 0 rfl (Nat.le_of_ble_eq_true rfl)
      rw [cp1] at V7
      have V7 : Arv Z h7 b6 k6 .char (1 : Int32) [(.int p1)] (.int (0 : Int32)) := V7
      replace A5 := A5.wr W7
      replace F5_value := F5_value.other W7 (Or.inl (Nat.ne_of_lt lt_b5_b6))
      replace F5_coder := F5_coder.other W7 (Or.inl (Nat.ne_of_lt lt_b5_b6))
      replace G6 := G6.wr W7
      replace O := O.wr W7 g_b6
      replace hk := Nat.le_trans hk (Keep.of_wr W7).1
      replace KM := KM.wr W7 (Or.inr m_b6_6)
      replace K := K.wr W7 (Or.inr s_b6)
      replace N := Fr.snoc X7 N g_b6
      refine own_go (B := T7.setTop (mkF m 32 #[.val (.int p1), .val (.int p2), .val (.int p3)] [(.ref b6), (.ref b5), (.ref b5)])) st7 ?_
      have := hb1
      have hws : ∀ d ∈ StrChars.Road.words, d.before a0 Z = true := fun d hd => hw d ((by decide +kernel : ∀ d ∈ StrChars.Road.words, d ∈ tables_1) d hd)
      -- pc 32: java/lang/String.<init>
      obtain ⟨_, _, ⟨T8, L8, k8, n8⟩, -, X8, ⟨Lc8, hQ8, l8, y8, z8⟩, st8⟩ := X7.specialBack hx (y := (⟨"java/lang/String", "<init>", "([C)V"⟩ : MethodName)) rfl hown (mvT hZ (hw _ (List.mem_of_getElem? (i := 8) rfl))) (mvT hZ (hw _ (List.mem_of_getElem? (i := 9) rfl))) (mvT hZ (hw _ (List.mem_of_getElem? (i := 10) rfl))) (by decide) (StrChars.Road.backV (W := 1) hZ hws (kI := 4) (hw _ (List.mem_of_getElem? (i := 5) rfl)) (cs := ([p1] : List Int32)) (bs := ([p1] : List Int32).map (fun c => c.toInt8.toInt32)) (n := 1) g_b5 (own_oldsz O) A5 F5_value F5_coder V7 (S_C.ext O.2) hcs rfl rfl (by decide) (by decide) (by intro c hc; simp only [List.mem_cons, List.not_mem_nil, or_false] at hc; subst hc; assumption) rfl (by decide) (by decide)) (g := (mkF m 32 #[.val (.int p1), .val (.int p2), .val (.int p3)] [(.ref b6), (.ref b5), (.ref b5)])) rfl (by rw [hml]; rfl) (Steps.refl _) (a := b5) (argsL := [(.ref b6)]) (rest := [(.ref b5)]) (lenOf pd_1 rfl) rfl (by show 2 * 0 + _ ≤ _; exact Nat.le_of_eq rfl) (hb hby d_method_2_32) (fun _ hWm => ⟨rfl, e7, (by decide : 2 + 1 ≤ _), (by decide : 5 + 1 ≤ _)⟩)
      dsimp only [Pt.U, Pt.locs, Pt.cells, Pt.slots] at X8 l8 y8 z8 st8 hQ8
      subst l8 y8 z8
      obtain ⟨rfl, Nq8, Kq8, Gq8_0, Gq8_1, t8, kb8, u8, fq8, nq8, Gq8_2, Gq8_3⟩ := hQ8
      replace N := Fr.app N Nq8
      have lt_b5_t8 : b5 < t8 := Nat.lt_of_lt_of_le A5.lt fq8
      have lt_b6_t8 : b6 < t8 := Nat.lt_of_lt_of_le G6.lt fq8
      have g_t8 : n0 ≤ t8 := Nat.le_trans (own_oldsz O) fq8
      have m_t8_8 : h0.size ≤ t8 := Nat.le_trans KM.1 fq8
      have s_t8 : h0.size ≤ t8 := Nat.le_trans K.1 fq8
      replace A5 := A5.keep Kq8
      clear F5_value
      clear F5_coder
      replace G6 := G6.keep Kq8
      replace V7 := V7.keep Kq8 (ninS (Nat.ne_of_gt lt_b5_b6) nin0)
      replace O := O.keep Kq8 (allS g_b5 all0)
      replace hk := Nat.le_trans hk Kq8.1
      replace KM := KM.trans Kq8 (allS (Or.inr m_b5_5) all0)
      replace K := K.trans Kq8 (allS (Or.inr s_b5) all0)
      refine own_go (B := T8.setTop (mkF m 35 #[.val (.int p1), .val (.int p2), .val (.int p3)] [(.ref b5)])) (fun t k => st8.trans k) ?_
      obtain ⟨fs, hr, hrun, hended, hEnd⟩ := X8.leaveW hS hk (v := some (.ref b5)) (fun h => by rw [Bd.returns] at h; cases h)
      refine ⟨_, _, own_retA X8 hx rfl Bd.returns rfl (hb hby d_method_2_35) hr, hfin _ _ ⟨hrun, hended, _, _, rfl, ?_, ⟨hEnd.1, hEnd.2.1, hEnd.2.2.1, hEnd.2.2.2.mono (by decide) (by decide)⟩, own_emR rfl (Em.warm (M.keep KM) X8.warmed)⟩⟩
      show QStr Z p1 p2 p3 zc h0 n0 _ T8.heap _
      exact ⟨b5, t8, kb8, ([p1] : List Int32), rfl, N, K, s_b5, Gq8_0, Gq8_1, Gq8_2, Gq8_3, (((if_neg l0).trans (if_pos l1)).symm), (by intro c hc; simp only [List.mem_cons, List.not_mem_nil, or_false] at hc; first | (rcases hc with rfl | rfl <;> assumption) | (subst hc; assumption)), (Nat.le_of_ble_eq_true rfl)⟩
    · refine own_go (B := s₁.setTop (mkF m 36 #[.val (.int p1), .val (.int p2), .val (.int p3)] [])) (fun t k => ?_) ?_
      · show Steps p.tables e below (s₁.setTop (mkF m 17 #[.val (.int p1), .val (.int p2), .val (.int p3)] [(.int (1 : Int32)), (.int p3)])) _
        refine XS.icmpYes X0.here hx rfl (pc0 := 17) (pc' := 36) rfl (hb hby d_method_2_17) rfl (feq l1).2 (by decide) (by decide) ?_
        show Steps p.tables e below (s₁.setTop (mkF m 36 #[.val (.int p1), .val (.int p2), .val (.int p3)] [])) _
        exact k
      obtain ⟨T10, h10, X10, e10, E10, A10, D10, -, st10⟩ := newO X0 hx hZ hown (hw _ (List.mem_of_getElem? (i := 4) rfl)) (hw _ (List.mem_of_getElem? (i := 5) rfl)) (hw _ (List.mem_of_getElem? (i := 6) rfl)) e0 (g := (mkF m 36 #[.val (.int p1), .val (.int p2), .val (.int p3)] [])) rfl (hb hby d_method_2_36) (by decide) (by decide)
      obtain ⟨b10, g10⟩ : ∃ z, z = h0.size := ⟨_, rfl⟩
      rw [← g10] at A10 D10 st10
      have g_b10 : n0 ≤ b10 := Nat.le_trans (own_oldsz O) (Nat.le_of_eq g10.symm)
      have m_b10_10 : h0.size ≤ b10 := Nat.le_trans KM.1 (Nat.le_of_eq g10.symm)
      have s_b10 : h0.size ≤ b10 := Nat.le_trans K.1 (Nat.le_of_eq g10.symm)
      replace O := O.ext E10
      replace hk := Nat.le_trans hk E10.1
      replace KM := KM.ext E10
      replace K := K.ext E10
      have F10_value : Fld Z h10 b10 "java/lang/String" "value" "[B" .null := D10 (Or.inr (hw _ (List.mem_of_getElem? (i := 20) rfl))) (ty := (.array .byte)) (by decide)
      have F10_coder : Fld Z h10 b10 "java/lang/String" "coder" "B" (.int (0 : Int32)) := D10 (Or.inr (hw _ (List.mem_of_getElem? (i := 21) rfl))) (ty := .byte) (by decide)
      refine own_go (B := T10.setTop (mkF m 39 #[.val (.int p1), .val (.int p2), .val (.int p3)] [(.ref b10)])) st10 ?_
      refine own_go (B := T10.setTop (mkF m 41 #[.val (.int p1), .val (.int p2), .val (.int p3)] [(.int (2 : Int32)), (.ref b10), (.ref b10)])) (fun t k => ?_) ?_
      · show Steps p.tables e below (T10.setTop (mkF m 39 #[.val (.int p1), .val (.int p2), .val (.int p3)] [(.ref b10)])) _
        refine XS.dup X10.here hx rfl (hb hby d_method_2_39) rfl rfl ?_
        show Steps p.tables e below (T10.setTop (mkF m 40 #[.val (.int p1), .val (.int p2), .val (.int p3)] [(.ref b10), (.ref b10)])) _
        refine XS.iconst X10.here hx rfl (hb hby d_method_2_40) ?_
        show Steps p.tables e below (T10.setTop (mkF m 41 #[.val (.int p1), .val (.int p2), .val (.int p3)] [(.int (2 : Int32)), (.ref b10), (.ref b10)])) _
        exact k
      obtain ⟨T11, h11, k11, X11, e11, E11, A11, G11, st11⟩ := newPE X10 hx hZ (hw _ (List.mem_of_getElem? (i := 7) rfl)) e10 (g := (mkF m 41 #[.val (.int p1), .val (.int p2), .val (.int p3)] [(.int (2 : Int32)), (.ref b10), (.ref b10)])) rfl (hb hby d_method_2_41) rfl (by decide) (cap := 2) (by decide) (by decide) (by decide) (by decide) (ad := "[C") (by decide)
      obtain ⟨b11, g11⟩ : ∃ z, z = h10.size := ⟨_, rfl⟩
      rw [← g11] at A11 G11 st11
      have lt_b10_b11 : b10 < b11 := Nat.lt_of_lt_of_le A10.lt (Nat.le_of_eq g11.symm)
      have g_b11 : n0 ≤ b11 := Nat.le_trans (own_oldsz O) (Nat.le_of_eq g11.symm)
      have m_b11_11 : h0.size ≤ b11 := Nat.le_trans KM.1 (Nat.le_of_eq g11.symm)
      have s_b11 : h0.size ≤ b11 := Nat.le_trans K.1 (Nat.le_of_eq g11.symm)
      replace A10 := A10.ext E11
      replace F10_value := F10_value.ext E11
      replace F10_coder := F10_coder.ext E11
      replace O := O.ext E11
      replace hk := Nat.le_trans hk E11.1
      replace KM := KM.ext E11
      replace K := K.ext E11
      have V11 : Arv Z h11 b11 k11 .char (2 : Int32) [(.int (0 : Int32)), (.int (0 : Int32))] (.int (0 : Int32)) := (Arv.new A11 (by decide)).pad (pad_rep [] (.int (0 : Int32)) 2)
      refine own_go (B := T11.setTop (mkF m 43 #[.val (.int p1), .val (.int p2), .val (.int p3)] [(.ref b11), (.ref b10), (.ref b10)])) st11 ?_
      refine own_go (B := T11.setTop (mkF m 47 #[.val (.int p1), .val (.int p2), .val (.int p3)] [(.int (p1.toUInt32.toUInt16.toUInt32.toInt32)), (.int (0 : Int32)), (.ref b11), (.ref b11), (.ref b10), (.ref b10)])) (fun t k => ?_) ?_
      · show Steps p.tables e below (T11.setTop (mkF m 43 #[.val (.int p1), .val (.int p2), .val (.int p3)] [(.ref b11), (.ref b10), (.ref b10)])) _
        refine XS.dup X11.here hx rfl (hb hby d_method_2_43) rfl rfl ?_
        show Steps p.tables e below (T11.setTop (mkF m 44 #[.val (.int p1), .val (.int p2), .val (.int p3)] [(.ref b11), (.ref b11), (.ref b10), (.ref b10)])) _
        refine XS.iconst X11.here hx rfl (hb hby d_method_2_44) ?_
        show Steps p.tables e below (T11.setTop (mkF m 45 #[.val (.int p1), .val (.int p2), .val (.int p3)] [(.int (0 : Int32)), (.ref b11), (.ref b11), (.ref b10), (.ref b10)])) _
        refine XS.iloadN X11.here hx rfl (hb hby d_method_2_45) rfl ?_
        show Steps p.tables e below (T11.setTop (mkF m 46 #[.val (.int p1), .val (.int p2), .val (.int p3)] [(.int p1), (.int (0 : Int32)), (.ref b11), (.ref b11), (.ref b10), (.ref b10)])) _
        refine XS.i2c X11.here hx rfl (hb hby d_method_2_46) rfl ?_
        show Steps p.tables e below (T11.setTop (mkF m 47 #[.val (.int p1), .val (.int p2), .val (.int p3)] [(.int (p1.toUInt32.toUInt16.toUInt32.toInt32)), (.int (0 : Int32)), (.ref b11), (.ref b11), (.ref b10), (.ref b10)])) _
        exact k
      rw [(own_i2c hb1)]
      have cp1 : nar .char p1 = p1 := own_i2c hb1
      obtain ⟨cl12, Ar12, q12, Sz12, Nn12, Hs12, Gt12⟩ := V11
      have hin12 : ¬ ((0 : Int32) < 0 ∨ cl12.slots.size ≤ ((0 : Int32)).toNatClampNeg) := inb_of Sz12 ⟨by decide, by decide⟩
      obtain ⟨T12, h12, X12, e12, W12, st12⟩ := stC X11 hx hZ e11 Ar12 (j := (0 : Int32)) hin12 (g := (mkF m 47 #[.val (.int p1), .val (.int p2), .val (.int p3)] [(.int p1), (.int (0 : Int32)), (.ref b11), (.ref b11), (.ref b10), (.ref b10)])) rfl rfl (hb hby d_method_2_47)
      have V12 := Arv.set Ar12 q12 Sz12 Nn12 Hs12 Gt12 (fits_nar_char _) W12 0 rfl (Nat.le_of_ble_eq_true rfl)
      rw [cp1] at V12
      have V12 : Arv Z h12 b11 k11 .char (2 : Int32) [(.int p1), (.int (0 : Int32))] (.int (0 : Int32)) := V12
      replace A10 := A10.wr W12
      replace F10_value := F10_value.other W12 (Or.inl (Nat.ne_of_lt lt_b10_b11))
      replace F10_coder := F10_coder.other W12 (Or.inl (Nat.ne_of_lt lt_b10_b11))
      replace G11 := G11.wr W12
      replace O := O.wr W12 g_b11
      replace hk := Nat.le_trans hk (Keep.of_wr W12).1
      replace KM := KM.wr W12 (Or.inr m_b11_11)
      replace K := K.wr W12 (Or.inr s_b11)
      replace N := Fr.snoc X12 N g_b11
      refine own_go (B := T12.setTop (mkF m 48 #[.val (.int p1), .val (.int p2), .val (.int p3)] [(.ref b11), (.ref b10), (.ref b10)])) st12 ?_
      refine own_go (B := T12.setTop (mkF m 52 #[.val (.int p1), .val (.int p2), .val (.int p3)] [(.int (p2.toUInt32.toUInt16.toUInt32.toInt32)), (.int (1 : Int32)), (.ref b11), (.ref b11), (.ref b10), (.ref b10)])) (fun t k => ?_) ?_
      · show Steps p.tables e below (T12.setTop (mkF m 48 #[.val (.int p1), .val (.int p2), .val (.int p3)] [(.ref b11), (.ref b10), (.ref b10)])) _
        refine XS.dup X12.here hx rfl (hb hby d_method_2_48) rfl rfl ?_
        show Steps p.tables e below (T12.setTop (mkF m 49 #[.val (.int p1), .val (.int p2), .val (.int p3)] [(.ref b11), (.ref b11), (.ref b10), (.ref b10)])) _
        refine XS.iconst X12.here hx rfl (hb hby d_method_2_49) ?_
        show Steps p.tables e below (T12.setTop (mkF m 50 #[.val (.int p1), .val (.int p2), .val (.int p3)] [(.int (1 : Int32)), (.ref b11), (.ref b11), (.ref b10), (.ref b10)])) _
        refine XS.iloadN X12.here hx rfl (hb hby d_method_2_50) rfl ?_
        show Steps p.tables e below (T12.setTop (mkF m 51 #[.val (.int p1), .val (.int p2), .val (.int p3)] [(.int p2), (.int (1 : Int32)), (.ref b11), (.ref b11), (.ref b10), (.ref b10)])) _
        refine XS.i2c X12.here hx rfl (hb hby d_method_2_51) rfl ?_
        show Steps p.tables e below (T12.setTop (mkF m 52 #[.val (.int p1), .val (.int p2), .val (.int p3)] [(.int (p2.toUInt32.toUInt16.toUInt32.toInt32)), (.int (1 : Int32)), (.ref b11), (.ref b11), (.ref b10), (.ref b10)])) _
        exact k
      rw [(own_i2c hb2)]
      have cp2 : nar .char p2 = p2 := own_i2c hb2
      obtain ⟨cl13, Ar13, q13, Sz13, Nn13, Hs13, Gt13⟩ := V12
      have hin13 : ¬ ((1 : Int32) < 0 ∨ cl13.slots.size ≤ ((1 : Int32)).toNatClampNeg) := inb_of Sz13 ⟨by decide, by decide⟩
      obtain ⟨T13, h13, X13, e13, W13, st13⟩ := stC X12 hx hZ e12 Ar13 (j := (1 : Int32)) hin13 (g := (mkF m 52 #[.val (.int p1), .val (.int p2), .val (.int p3)] [(.int p2), (.int (1 : Int32)), (.ref b11), (.ref b11), (.ref b10), (.ref b10)])) rfl rfl (hb hby d_method_2_52)
      have V13 := Arv.set Ar13 q13 Sz13 Nn13 Hs13 Gt13 (fits_nar_char _) W13 1 rfl (Nat.le_of_ble_eq_true rfl)
      rw [cp2] at V13
      have V13 : Arv Z h13 b11 k11 .char (2 : Int32) [(.int p1), (.int p2)] (.int (0 : Int32)) := V13
      replace A10 := A10.wr W13
      replace F10_value := F10_value.other W13 (Or.inl (Nat.ne_of_lt lt_b10_b11))
      replace F10_coder := F10_coder.other W13 (Or.inl (Nat.ne_of_lt lt_b10_b11))
      replace G11 := G11.wr W13
      replace O := O.wr W13 g_b11
      replace hk := Nat.le_trans hk (Keep.of_wr W13).1
      replace KM := KM.wr W13 (Or.inr m_b11_11)
      replace K := K.wr W13 (Or.inr s_b11)
      replace N := Fr.snoc X13 N g_b11
      refine own_go (B := T13.setTop (mkF m 53 #[.val (.int p1), .val (.int p2), .val (.int p3)] [(.ref b11), (.ref b10), (.ref b10)])) st13 ?_
      have := hb1
      have := hb2
      have hws : ∀ d ∈ StrChars.Road.words, d.before a0 Z = true := fun d hd => hw d ((by decide +kernel : ∀ d ∈ StrChars.Road.words, d ∈ tables_1) d hd)
      -- pc 53: java/lang/String.<init>
      obtain ⟨_, _, ⟨T14, L14, k14, n14⟩, -, X14, ⟨Lc14, hQ14, l14, y14, z14⟩, st14⟩ := X13.specialBack hx (y := (⟨"java/lang/String", "<init>", "([C)V"⟩ : MethodName)) rfl hown (mvT hZ (hw _ (List.mem_of_getElem? (i := 8) rfl))) (mvT hZ (hw _ (List.mem_of_getElem? (i := 9) rfl))) (mvT hZ (hw _ (List.mem_of_getElem? (i := 10) rfl))) (by decide) (StrChars.Road.backV (W := 1) hZ hws (kI := 4) (hw _ (List.mem_of_getElem? (i := 5) rfl)) (cs := ([p1, p2] : List Int32)) (bs := ([p1, p2] : List Int32).map (fun c => c.toInt8.toInt32)) (n := 2) g_b10 (own_oldsz O) A10 F10_value F10_coder V13 (S_C.ext O.2) hcs rfl rfl (by decide) (by decide) (by intro c hc; simp only [List.mem_cons, List.not_mem_nil, or_false] at hc; rcases hc with rfl | rfl <;> assumption) rfl (by decide) (by decide)) (g := (mkF m 53 #[.val (.int p1), .val (.int p2), .val (.int p3)] [(.ref b11), (.ref b10), (.ref b10)])) rfl (by rw [hml]; rfl) (Steps.refl _) (a := b10) (argsL := [(.ref b11)]) (rest := [(.ref b10)]) (lenOf pd_1 rfl) rfl (by show 2 * 0 + _ ≤ _; exact Nat.le_of_eq rfl) (hb hby d_method_2_53) (fun _ hWm => ⟨rfl, e13, (by decide : 2 + 1 ≤ _), (by decide : 6 + 2 ≤ _)⟩)
      dsimp only [Pt.U, Pt.locs, Pt.cells, Pt.slots] at X14 l14 y14 z14 st14 hQ14
      subst l14 y14 z14
      obtain ⟨rfl, Nq14, Kq14, Gq14_0, Gq14_1, t14, kb14, u14, fq14, nq14, Gq14_2, Gq14_3⟩ := hQ14
      replace N := Fr.app N Nq14
      have lt_b10_t14 : b10 < t14 := Nat.lt_of_lt_of_le A10.lt fq14
      have lt_b11_t14 : b11 < t14 := Nat.lt_of_lt_of_le G11.lt fq14
      have g_t14 : n0 ≤ t14 := Nat.le_trans (own_oldsz O) fq14
      have m_t14_14 : h0.size ≤ t14 := Nat.le_trans KM.1 fq14
      have s_t14 : h0.size ≤ t14 := Nat.le_trans K.1 fq14
      replace A10 := A10.keep Kq14
      clear F10_value
      clear F10_coder
      replace G11 := G11.keep Kq14
      replace V13 := V13.keep Kq14 (ninS (Nat.ne_of_gt lt_b10_b11) nin0)
      replace O := O.keep Kq14 (allS g_b10 all0)
      replace hk := Nat.le_trans hk Kq14.1
      replace KM := KM.trans Kq14 (allS (Or.inr m_b10_10) all0)
      replace K := K.trans Kq14 (allS (Or.inr s_b10) all0)
      refine own_go (B := T14.setTop (mkF m 56 #[.val (.int p1), .val (.int p2), .val (.int p3)] [(.ref b10)])) (fun t k => st14.trans k) ?_
      obtain ⟨fs, hr, hrun, hended, hEnd⟩ := X14.leaveW hS hk (v := some (.ref b10)) (fun h => by rw [Bd.returns] at h; cases h)
      refine ⟨_, _, own_retA X14 hx rfl Bd.returns rfl (hb hby d_method_2_56) hr, hfin _ _ ⟨hrun, hended, _, _, rfl, ?_, ⟨hEnd.1, hEnd.2.1, hEnd.2.2.1, hEnd.2.2.2.mono (by decide) (by decide)⟩, own_emR rfl (Em.warm (M.keep KM) X14.warmed)⟩⟩
      show QStr Z p1 p2 p3 zc h0 n0 _ T14.heap _
      exact ⟨b10, t14, kb14, ([p1, p2] : List Int32), rfl, N, K, s_b10, Gq14_0, Gq14_1, Gq14_2, Gq14_3, (((if_neg l0).trans (if_neg l1)).symm), (by intro c hc; simp only [List.mem_cons, List.not_mem_nil, or_false] at hc; first | (rcases hc with rfl | rfl <;> assumption) | (subst hc; assumption)), (Nat.le_of_ble_eq_true rfl)⟩
def QPos (Z : State) (a : Addr) (p1 : Int32) (p2 : Int32) (h0 : Heap) (n0 : Nat) (v : Option Value) (h : Heap) (L : List Loc) : Prop := v = none ∧ Fr n0 L ∧ Keep h0 h [a]
theorem ef_Pos (m : MethodId) (a : Addr) (p1 : Int32) (p2 : Int32) : entryFrame m #[(.ref a), (.int p1), (.int p2)] 3 = mkF m 0 #[.val (.ref a), .val (.int p1), .val (.int p2)] [] := by first | (simp [entryFrame, mkF, argsToLocals, Value.category]; done) | rfl | (rfl)
set_option maxRecDepth 65536 in
set_option maxHeartbeats 40000000 in
theorem rmPos (l : Launch) (Z : State) (a0 : Array Value) (hw : ∀ d ∈ tables_1, d.before a0 Z = true) (ws : List Jvm.Cond) (a : Addr) (p1 : Int32) (p2 : Int32) (h0 : Heap) (n0 : Nat) (O : Old Z n0 h0) (E : Exa Z h0 a "org/bindery/Position") (F1 : Fld Z h0 a "org/bindery/Position" "line" "I" (.int (0 : Int32))) (F2 : Fld Z h0 a "org/bindery/Position" "column" "I" (.int (0 : Int32))) (ga : n0 ≤ a) :
    MetFree l (⟨"org/bindery/Position", "<init>", "(II)V"⟩ : MethodName) (head1 (Jvm.Cond.code (⟨"org/bindery/Position", "<init>", "(II)V"⟩ : MethodName) prog_75_method_1_code 3 none :: ws) ({ frames := 2, cells := 0, slots := 0, locals := 24 } : Room)) (fun as_ U => as_ = #[(.ref a), (.int p1), (.int p2)] ∧ Z.Warmed39 U.vm ∧ U.heap = h0) (fun _ _ _ _ _ => True) (fun _ U oo_ U' => ∃ vv_ LL_, oo_ = .returned vv_ ∧ QPos Z a p1 p2 h0 n0 vv_ U'.heap LL_ ∧ FrameEnd U oo_ U' LL_ ({ frames := 2, cells := 0, slots := 0, locals := 24 } : Room).cells ({ frames := 2, cells := 0, slots := 0, locals := 24 } : Room).slots) := by
  refine MetFree.of_bodySF (plainFor_of_name pn_3) hisR ?_
  intro p e s m args below meth c s₁ Bd hml0 hP hK
  obtain ⟨rfl, hZ, hh⟩ := hP
  have hx := Bd.exec
  have hby := Bd.bytes
  have hml : c.maxLocals = 3 := hml0
  have hown : s.vm.findClass "org/bindery/Position" = some m.cls := findClass_of_methodNamed Bd.named
  have hnm := (name_of_methodNamed Bd.named Bd.method).1
  have X0 : Stand p l e ({ frames := 2, cells := 0, slots := 0, locals := 24 } : Room) s m #[(.ref a), (.int p1), (.int p2)] below meth c s₁ [] 0 0 := Stand.of_body Bd
  have e0 : s₁.heap = h0 := by rw [← hh, Bd.state]; rfl
  have N := Fr.nil n0
  have K : Keep h0 h0 [a] := Keep.refl h0 _
  refine own_go (B := s₁.setTop (mkF m 0 #[.val (.ref a), .val (.int p1), .val (.int p2)] [])) (fun t k => castTop (ef_Pos m a p1 p2) k) ?_
  refine own_abs (fun P hfin => ?_)
  refine own_go (B := s₁.setTop (mkF m 1 #[.val (.ref a), .val (.int p1), .val (.int p2)] [(.ref a)])) (fun t k => ?_) ?_
  · show Steps p.tables e below (s₁.setTop (mkF m 0 #[.val (.ref a), .val (.int p1), .val (.int p2)] [])) _
    refine XS.aloadN X0.here hx rfl (hb hby d_prog_75_method_1_0) rfl rfl ?_
    show Steps p.tables e below (s₁.setTop (mkF m 1 #[.val (.ref a), .val (.int p1), .val (.int p2)] [(.ref a)])) _
    exact k
  -- pc 1: java/lang/Record.<init>
  obtain ⟨_, _, ⟨T1, L1, k1, n1⟩, -, X1, ⟨Lc1, hQ1, l1, y1, z1⟩, st1⟩ := X0.specialBack hx (y := (⟨"java/lang/Record", "<init>", "()V"⟩ : MethodName)) rfl hown (mvT hZ (hw _ (List.mem_of_getElem? (i := 35) rfl))) (mvT hZ (hw _ (List.mem_of_getElem? (i := 36) rfl))) (mvT hZ (hw _ (List.mem_of_getElem? (i := 39) rfl))) (by decide) (backOf (W := 0) (rmRec l Z a0 hw [] a h0 n0 O ) hZ (hw _ (List.mem_of_getElem? (i := 39) rfl)) (hw _ (List.mem_of_getElem? (i := 38) rfl)) (by decide) (by decide)) (g := (mkF m 1 #[.val (.ref a), .val (.int p1), .val (.int p2)] [(.ref a)])) rfl (by rw [hml]; rfl) (Steps.refl _) (a := a) (argsL := []) (rest := []) (lenOf pd_2 rfl) rfl (by show 2 * 0 + _ ≤ _; exact Nat.le_of_eq rfl) (hb hby d_prog_75_method_1_1) (fun _ hWm => ⟨rfl, e0, (by decide : 0 + 0 ≤ _), (by decide : 0 + 0 ≤ _)⟩)
  dsimp only [Pt.U, Pt.locs, Pt.cells, Pt.slots] at X1 l1 y1 z1 st1 hQ1
  subst l1 y1 z1
  obtain ⟨rfl, Nq1, Kq1⟩ := hQ1
  replace N := Fr.app N Nq1
  refine own_go (B := T1.setTop (mkF m 4 #[.val (.ref a), .val (.int p1), .val (.int p2)] [])) (fun t k => st1.trans k) ?_
  refine own_go (B := T1.setTop (mkF m 6 #[.val (.ref a), .val (.int p1), .val (.int p2)] [(.int p1), (.ref a)])) (fun t k => ?_) ?_
  · show Steps p.tables e below (T1.setTop (mkF m 4 #[.val (.ref a), .val (.int p1), .val (.int p2)] [])) _
    refine XS.aloadN X1.here hx rfl (hb hby d_prog_75_method_1_4) rfl rfl ?_
    show Steps p.tables e below (T1.setTop (mkF m 5 #[.val (.ref a), .val (.int p1), .val (.int p2)] [(.ref a)])) _
    refine XS.iloadN X1.here hx rfl (hb hby d_prog_75_method_1_5) rfl ?_
    show Steps p.tables e below (T1.setTop (mkF m 6 #[.val (.ref a), .val (.int p1), .val (.int p2)] [(.int p1), (.ref a)])) _
    exact k
  obtain ⟨T2, h2, X2, e2, W2, st2⟩ := putF X1 hx hZ hown (host := "") (Or.inl (hw _ (List.mem_of_getElem? (i := 41) rfl))) Via.refl Kq1 F1 E (Or.inr ⟨(hw _ (List.mem_of_getElem? (i := 42) rfl)), rfl, hnm⟩) (hw _ (List.mem_of_getElem? (i := 30) rfl)) (ty := .int) (by decide) rfl rfl (g := (mkF m 6 #[.val (.ref a), .val (.int p1), .val (.int p2)] [(.int p1), (.ref a)])) rfl rfl (hb hby d_prog_75_method_1_6)
  have Fw2 := F1.same W2
  replace E := E.wr W2
  clear F1
  replace F2 := F2.other W2 (Or.inr (slot_ne (Or.inr (hw _ (List.mem_of_getElem? (i := 44) rfl))) (Or.inr (hw _ (List.mem_of_getElem? (i := 42) rfl))) (by decide) (t := .int) (t' := .int) (by decide) (by decide)))
  replace O := O.wr W2 ga
  replace K := K.wr W2 (Or.inl (List.mem_of_getElem? (i := 0) rfl))
  replace N := Fr.snoc X2 N ga
  refine own_go (B := T2.setTop (mkF m 9 #[.val (.ref a), .val (.int p1), .val (.int p2)] [])) st2 ?_
  refine own_go (B := T2.setTop (mkF m 11 #[.val (.ref a), .val (.int p1), .val (.int p2)] [(.int p2), (.ref a)])) (fun t k => ?_) ?_
  · show Steps p.tables e below (T2.setTop (mkF m 9 #[.val (.ref a), .val (.int p1), .val (.int p2)] [])) _
    refine XS.aloadN X2.here hx rfl (hb hby d_prog_75_method_1_9) rfl rfl ?_
    show Steps p.tables e below (T2.setTop (mkF m 10 #[.val (.ref a), .val (.int p1), .val (.int p2)] [(.ref a)])) _
    refine XS.iloadN X2.here hx rfl (hb hby d_prog_75_method_1_10) rfl ?_
    show Steps p.tables e below (T2.setTop (mkF m 11 #[.val (.ref a), .val (.int p1), .val (.int p2)] [(.int p2), (.ref a)])) _
    exact k
  obtain ⟨T3, h3, X3, e3, W3, st3⟩ := putF X2 hx hZ hown (host := "") (Or.inl (hw _ (List.mem_of_getElem? (i := 43) rfl))) Via.refl e2 F2 E (Or.inr ⟨(hw _ (List.mem_of_getElem? (i := 44) rfl)), rfl, hnm⟩) (hw _ (List.mem_of_getElem? (i := 30) rfl)) (ty := .int) (by decide) rfl rfl (g := (mkF m 11 #[.val (.ref a), .val (.int p1), .val (.int p2)] [(.int p2), (.ref a)])) rfl rfl (hb hby d_prog_75_method_1_11)
  have Fw3 := F2.same W3
  replace E := E.wr W3
  clear F2
  replace Fw2 := Fw2.other W3 (Or.inr (slot_ne (Or.inr (hw _ (List.mem_of_getElem? (i := 42) rfl))) (Or.inr (hw _ (List.mem_of_getElem? (i := 44) rfl))) (by decide) (t := .int) (t' := .int) (by decide) (by decide)))
  replace O := O.wr W3 ga
  replace K := K.wr W3 (Or.inl (List.mem_of_getElem? (i := 0) rfl))
  replace N := Fr.snoc X3 N ga
  refine own_go (B := T3.setTop (mkF m 14 #[.val (.ref a), .val (.int p1), .val (.int p2)] [])) st3 ?_
  obtain ⟨fs, hr, hrun, hended, hW, hsame⟩ := X3.leave (v := none) (fun _ => rfl)
  refine ⟨_, _, X3.returnOut hx Bd.returns (hb hby d_prog_75_method_1_14) hr, hfin _ _ ⟨hrun, hended, _, _, rfl, ?_, ⟨_, rfl⟩, hW, hsame.mono (by decide) (by decide)⟩⟩
  show QPos Z a p1 p2 h0 n0 _ T3.heap _
  rw [e3]
  exact ⟨rfl, N, K⟩
def QDeI (Z : State) (a : Addr) (s1 : Addr) (s2 : Addr) (s4 : Addr) (h0 : Heap) (n0 : Nat) (v : Option Value) (h : Heap) (L : List Loc) : Prop := v = none ∧ Fr n0 L ∧ Keep h0 h [a] ∧ Fld Z h a "org/bindery/DocumentElement" "namespace" "Ljava/lang/String;" (.ref s1) ∧ Fld Z h a "org/bindery/DocumentElement" "localName" "Ljava/lang/String;" (.ref s2)
theorem ef_DeI (m : MethodId) (a : Addr) (s1 : Addr) (s2 : Addr) (s4 : Addr) : entryFrame m #[(.ref a), (.ref s1), (.ref s2), .null, (.ref s4)] 5 = mkF m 0 #[.val (.ref a), .val (.ref s1), .val (.ref s2), .val .null, .val (.ref s4)] [] := by first | (simp [entryFrame, mkF, argsToLocals, Value.category]; done) | rfl | (rfl)
set_option maxRecDepth 65536 in
set_option maxHeartbeats 40000000 in
theorem rmDeI (l : Launch) (Z : State) (a0 : Array Value) (hw : ∀ d ∈ tables_1, d.before a0 Z = true) (ws : List Jvm.Cond) (a : Addr) (s1 : Addr) (s2 : Addr) (s4 : Addr) (h0 : Heap) (n0 : Nat) (O : Old Z n0 h0) (E : Exa Z h0 a "org/bindery/DocumentElement") (F0 : Fld Z h0 a "org/bindery/DocumentElement" "namespace" "Ljava/lang/String;" .null) (F1 : Fld Z h0 a "org/bindery/DocumentElement" "localName" "Ljava/lang/String;" .null) (F2 : Fld Z h0 a "org/bindery/DocumentElement" "targetNamespace" "Ljava/lang/String;" .null) (F3 : Fld Z h0 a "org/bindery/DocumentElement" "end" "Lorg/bindery/Position;" .null) (ga : n0 ≤ a) :
    MetFree l (⟨"org/bindery/DocumentElement", "<init>", "(Ljava/lang/String;Ljava/lang/String;Ljava/lang/String;Lorg/bindery/Position;)V"⟩ : MethodName) (head1 (Jvm.Cond.code (⟨"org/bindery/DocumentElement", "<init>", "(Ljava/lang/String;Ljava/lang/String;Ljava/lang/String;Lorg/bindery/Position;)V"⟩ : MethodName) prog_37_method_1_code 5 none :: ws) ({ frames := 2, cells := 0, slots := 0, locals := 24 } : Room)) (fun as_ U => as_ = #[(.ref a), (.ref s1), (.ref s2), .null, (.ref s4)] ∧ Z.Warmed39 U.vm ∧ U.heap = h0) (fun _ _ _ _ _ => True) (fun _ U oo_ U' => ∃ vv_ LL_, oo_ = .returned vv_ ∧ QDeI Z a s1 s2 s4 h0 n0 vv_ U'.heap LL_ ∧ FrameEnd U oo_ U' LL_ ({ frames := 2, cells := 0, slots := 0, locals := 24 } : Room).cells ({ frames := 2, cells := 0, slots := 0, locals := 24 } : Room).slots) := by
  refine MetFree.of_bodySF (plainFor_of_name pn_4) hisR ?_
  intro p e s m args below meth c s₁ Bd hml0 hP hK
  obtain ⟨rfl, hZ, hh⟩ := hP
  have hx := Bd.exec
  have hby := Bd.bytes
  have hml : c.maxLocals = 5 := hml0
  have hown : s.vm.findClass "org/bindery/DocumentElement" = some m.cls := findClass_of_methodNamed Bd.named
  have hnm := (name_of_methodNamed Bd.named Bd.method).1
  have X0 : Stand p l e ({ frames := 2, cells := 0, slots := 0, locals := 24 } : Room) s m #[(.ref a), (.ref s1), (.ref s2), .null, (.ref s4)] below meth c s₁ [] 0 0 := Stand.of_body Bd
  have e0 : s₁.heap = h0 := by rw [← hh, Bd.state]; rfl
  have N := Fr.nil n0
  have K : Keep h0 h0 [a] := Keep.refl h0 _
  refine own_go (B := s₁.setTop (mkF m 0 #[.val (.ref a), .val (.ref s1), .val (.ref s2), .val .null, .val (.ref s4)] [])) (fun t k => castTop (ef_DeI m a s1 s2 s4) k) ?_
  refine own_abs (fun P hfin => ?_)
  refine own_go (B := s₁.setTop (mkF m 1 #[.val (.ref a), .val (.ref s1), .val (.ref s2), .val .null, .val (.ref s4)] [(.ref a)])) (fun t k => ?_) ?_
  · show Steps p.tables e below (s₁.setTop (mkF m 0 #[.val (.ref a), .val (.ref s1), .val (.ref s2), .val .null, .val (.ref s4)] [])) _
    refine XS.aloadN X0.here hx rfl (hb hby d_prog_37_method_1_0) rfl rfl ?_
    show Steps p.tables e below (s₁.setTop (mkF m 1 #[.val (.ref a), .val (.ref s1), .val (.ref s2), .val .null, .val (.ref s4)] [(.ref a)])) _
    exact k
  -- pc 1: java/lang/Record.<init>
  obtain ⟨_, _, ⟨T1, L1, k1, n1⟩, -, X1, ⟨Lc1, hQ1, l1, y1, z1⟩, st1⟩ := X0.specialBack hx (y := (⟨"java/lang/Record", "<init>", "()V"⟩ : MethodName)) rfl hown (mvT hZ (hw _ (List.mem_of_getElem? (i := 48) rfl))) (mvT hZ (hw _ (List.mem_of_getElem? (i := 36) rfl))) (mvT hZ (hw _ (List.mem_of_getElem? (i := 39) rfl))) (by decide) (backOf (W := 0) (rmRec l Z a0 hw [] a h0 n0 O ) hZ (hw _ (List.mem_of_getElem? (i := 39) rfl)) (hw _ (List.mem_of_getElem? (i := 38) rfl)) (by decide) (by decide)) (g := (mkF m 1 #[.val (.ref a), .val (.ref s1), .val (.ref s2), .val .null, .val (.ref s4)] [(.ref a)])) rfl (by rw [hml]; rfl) (Steps.refl _) (a := a) (argsL := []) (rest := []) (lenOf pd_2 rfl) rfl (by show 2 * 0 + _ ≤ _; exact Nat.le_of_eq rfl) (hb hby d_prog_37_method_1_1) (fun _ hWm => ⟨rfl, e0, (by decide : 0 + 0 ≤ _), (by decide : 0 + 0 ≤ _)⟩)
  dsimp only [Pt.U, Pt.locs, Pt.cells, Pt.slots] at X1 l1 y1 z1 st1 hQ1
  subst l1 y1 z1
  obtain ⟨rfl, Nq1, Kq1⟩ := hQ1
  replace N := Fr.app N Nq1
  refine own_go (B := T1.setTop (mkF m 4 #[.val (.ref a), .val (.ref s1), .val (.ref s2), .val .null, .val (.ref s4)] [])) (fun t k => st1.trans k) ?_
  refine own_go (B := T1.setTop (mkF m 6 #[.val (.ref a), .val (.ref s1), .val (.ref s2), .val .null, .val (.ref s4)] [(.ref s1), (.ref a)])) (fun t k => ?_) ?_
  · show Steps p.tables e below (T1.setTop (mkF m 4 #[.val (.ref a), .val (.ref s1), .val (.ref s2), .val .null, .val (.ref s4)] [])) _
    refine XS.aloadN X1.here hx rfl (hb hby d_prog_37_method_1_4) rfl rfl ?_
    show Steps p.tables e below (T1.setTop (mkF m 5 #[.val (.ref a), .val (.ref s1), .val (.ref s2), .val .null, .val (.ref s4)] [(.ref a)])) _
    refine XS.aloadN X1.here hx rfl (hb hby d_prog_37_method_1_5) rfl rfl ?_
    show Steps p.tables e below (T1.setTop (mkF m 6 #[.val (.ref a), .val (.ref s1), .val (.ref s2), .val .null, .val (.ref s4)] [(.ref s1), (.ref a)])) _
    exact k
  obtain ⟨T2, h2, X2, e2, W2, st2⟩ := putF X1 hx hZ hown (host := "") (Or.inl (hw _ (List.mem_of_getElem? (i := 49) rfl))) Via.refl Kq1 F0 E (Or.inr ⟨(hw _ (List.mem_of_getElem? (i := 50) rfl)), rfl, hnm⟩) (hw _ (List.mem_of_getElem? (i := 27) rfl)) (ty := (.object "java/lang/String")) (by decide) rfl rfl (g := (mkF m 6 #[.val (.ref a), .val (.ref s1), .val (.ref s2), .val .null, .val (.ref s4)] [(.ref s1), (.ref a)])) rfl rfl (hb hby d_prog_37_method_1_6)
  have Fw2 := F0.same W2
  replace E := E.wr W2
  clear F0
  replace F1 := F1.other W2 (Or.inr (slot_ne (Or.inr (hw _ (List.mem_of_getElem? (i := 52) rfl))) (Or.inr (hw _ (List.mem_of_getElem? (i := 50) rfl))) (by decide) (t := (.object "java/lang/String")) (t' := (.object "java/lang/String")) (by decide) (by decide)))
  replace F2 := F2.other W2 (Or.inr (slot_ne (Or.inr (hw _ (List.mem_of_getElem? (i := 54) rfl))) (Or.inr (hw _ (List.mem_of_getElem? (i := 50) rfl))) (by decide) (t := (.object "java/lang/String")) (t' := (.object "java/lang/String")) (by decide) (by decide)))
  replace F3 := F3.other W2 (Or.inr (slot_ne (Or.inr (hw _ (List.mem_of_getElem? (i := 56) rfl))) (Or.inr (hw _ (List.mem_of_getElem? (i := 50) rfl))) (by decide) (t := (.object "org/bindery/Position")) (t' := (.object "java/lang/String")) (by decide) (by decide)))
  replace O := O.wr W2 ga
  replace K := K.wr W2 (Or.inl (List.mem_of_getElem? (i := 0) rfl))
  replace N := Fr.snoc X2 N ga
  refine own_go (B := T2.setTop (mkF m 9 #[.val (.ref a), .val (.ref s1), .val (.ref s2), .val .null, .val (.ref s4)] [])) st2 ?_
  refine own_go (B := T2.setTop (mkF m 11 #[.val (.ref a), .val (.ref s1), .val (.ref s2), .val .null, .val (.ref s4)] [(.ref s2), (.ref a)])) (fun t k => ?_) ?_
  · show Steps p.tables e below (T2.setTop (mkF m 9 #[.val (.ref a), .val (.ref s1), .val (.ref s2), .val .null, .val (.ref s4)] [])) _
    refine XS.aloadN X2.here hx rfl (hb hby d_prog_37_method_1_9) rfl rfl ?_
    show Steps p.tables e below (T2.setTop (mkF m 10 #[.val (.ref a), .val (.ref s1), .val (.ref s2), .val .null, .val (.ref s4)] [(.ref a)])) _
    refine XS.aloadN X2.here hx rfl (hb hby d_prog_37_method_1_10) rfl rfl ?_
    show Steps p.tables e below (T2.setTop (mkF m 11 #[.val (.ref a), .val (.ref s1), .val (.ref s2), .val .null, .val (.ref s4)] [(.ref s2), (.ref a)])) _
    exact k
  obtain ⟨T3, h3, X3, e3, W3, st3⟩ := putF X2 hx hZ hown (host := "") (Or.inl (hw _ (List.mem_of_getElem? (i := 51) rfl))) Via.refl e2 F1 E (Or.inr ⟨(hw _ (List.mem_of_getElem? (i := 52) rfl)), rfl, hnm⟩) (hw _ (List.mem_of_getElem? (i := 27) rfl)) (ty := (.object "java/lang/String")) (by decide) rfl rfl (g := (mkF m 11 #[.val (.ref a), .val (.ref s1), .val (.ref s2), .val .null, .val (.ref s4)] [(.ref s2), (.ref a)])) rfl rfl (hb hby d_prog_37_method_1_11)
  have Fw3 := F1.same W3
  replace E := E.wr W3
  clear F1
  replace F2 := F2.other W3 (Or.inr (slot_ne (Or.inr (hw _ (List.mem_of_getElem? (i := 54) rfl))) (Or.inr (hw _ (List.mem_of_getElem? (i := 52) rfl))) (by decide) (t := (.object "java/lang/String")) (t' := (.object "java/lang/String")) (by decide) (by decide)))
  replace F3 := F3.other W3 (Or.inr (slot_ne (Or.inr (hw _ (List.mem_of_getElem? (i := 56) rfl))) (Or.inr (hw _ (List.mem_of_getElem? (i := 52) rfl))) (by decide) (t := (.object "org/bindery/Position")) (t' := (.object "java/lang/String")) (by decide) (by decide)))
  replace Fw2 := Fw2.other W3 (Or.inr (slot_ne (Or.inr (hw _ (List.mem_of_getElem? (i := 50) rfl))) (Or.inr (hw _ (List.mem_of_getElem? (i := 52) rfl))) (by decide) (t := (.object "java/lang/String")) (t' := (.object "java/lang/String")) (by decide) (by decide)))
  replace O := O.wr W3 ga
  replace K := K.wr W3 (Or.inl (List.mem_of_getElem? (i := 0) rfl))
  replace N := Fr.snoc X3 N ga
  refine own_go (B := T3.setTop (mkF m 14 #[.val (.ref a), .val (.ref s1), .val (.ref s2), .val .null, .val (.ref s4)] [])) st3 ?_
  refine own_go (B := T3.setTop (mkF m 16 #[.val (.ref a), .val (.ref s1), .val (.ref s2), .val .null, .val (.ref s4)] [.null, (.ref a)])) (fun t k => ?_) ?_
  · show Steps p.tables e below (T3.setTop (mkF m 14 #[.val (.ref a), .val (.ref s1), .val (.ref s2), .val .null, .val (.ref s4)] [])) _
    refine XS.aloadN X3.here hx rfl (hb hby d_prog_37_method_1_14) rfl rfl ?_
    show Steps p.tables e below (T3.setTop (mkF m 15 #[.val (.ref a), .val (.ref s1), .val (.ref s2), .val .null, .val (.ref s4)] [(.ref a)])) _
    refine XS.aloadN X3.here hx rfl (hb hby d_prog_37_method_1_15) rfl rfl ?_
    show Steps p.tables e below (T3.setTop (mkF m 16 #[.val (.ref a), .val (.ref s1), .val (.ref s2), .val .null, .val (.ref s4)] [.null, (.ref a)])) _
    exact k
  obtain ⟨T4, h4, X4, e4, W4, st4⟩ := putF X3 hx hZ hown (host := "") (Or.inl (hw _ (List.mem_of_getElem? (i := 53) rfl))) Via.refl e3 F2 E (Or.inr ⟨(hw _ (List.mem_of_getElem? (i := 54) rfl)), rfl, hnm⟩) (hw _ (List.mem_of_getElem? (i := 27) rfl)) (ty := (.object "java/lang/String")) (by decide) rfl rfl (g := (mkF m 16 #[.val (.ref a), .val (.ref s1), .val (.ref s2), .val .null, .val (.ref s4)] [.null, (.ref a)])) rfl rfl (hb hby d_prog_37_method_1_16)
  have Fw4 := F2.same W4
  replace E := E.wr W4
  clear F2
  replace F3 := F3.other W4 (Or.inr (slot_ne (Or.inr (hw _ (List.mem_of_getElem? (i := 56) rfl))) (Or.inr (hw _ (List.mem_of_getElem? (i := 54) rfl))) (by decide) (t := (.object "org/bindery/Position")) (t' := (.object "java/lang/String")) (by decide) (by decide)))
  replace Fw2 := Fw2.other W4 (Or.inr (slot_ne (Or.inr (hw _ (List.mem_of_getElem? (i := 50) rfl))) (Or.inr (hw _ (List.mem_of_getElem? (i := 54) rfl))) (by decide) (t := (.object "java/lang/String")) (t' := (.object "java/lang/String")) (by decide) (by decide)))
  replace Fw3 := Fw3.other W4 (Or.inr (slot_ne (Or.inr (hw _ (List.mem_of_getElem? (i := 52) rfl))) (Or.inr (hw _ (List.mem_of_getElem? (i := 54) rfl))) (by decide) (t := (.object "java/lang/String")) (t' := (.object "java/lang/String")) (by decide) (by decide)))
  replace O := O.wr W4 ga
  replace K := K.wr W4 (Or.inl (List.mem_of_getElem? (i := 0) rfl))
  replace N := Fr.snoc X4 N ga
  refine own_go (B := T4.setTop (mkF m 19 #[.val (.ref a), .val (.ref s1), .val (.ref s2), .val .null, .val (.ref s4)] [])) st4 ?_
  refine own_go (B := T4.setTop (mkF m 22 #[.val (.ref a), .val (.ref s1), .val (.ref s2), .val .null, .val (.ref s4)] [(.ref s4), (.ref a)])) (fun t k => ?_) ?_
  · show Steps p.tables e below (T4.setTop (mkF m 19 #[.val (.ref a), .val (.ref s1), .val (.ref s2), .val .null, .val (.ref s4)] [])) _
    refine XS.aloadN X4.here hx rfl (hb hby d_prog_37_method_1_19) rfl rfl ?_
    show Steps p.tables e below (T4.setTop (mkF m 20 #[.val (.ref a), .val (.ref s1), .val (.ref s2), .val .null, .val (.ref s4)] [(.ref a)])) _
    refine XS.aload X4.here hx rfl (hb hby d_prog_37_method_1_20) rfl rfl ?_
    show Steps p.tables e below (T4.setTop (mkF m 22 #[.val (.ref a), .val (.ref s1), .val (.ref s2), .val .null, .val (.ref s4)] [(.ref s4), (.ref a)])) _
    exact k
  obtain ⟨T5, h5, X5, e5, W5, st5⟩ := putF X4 hx hZ hown (host := "") (Or.inl (hw _ (List.mem_of_getElem? (i := 55) rfl))) Via.refl e4 F3 E (Or.inr ⟨(hw _ (List.mem_of_getElem? (i := 56) rfl)), rfl, hnm⟩) (hw _ (List.mem_of_getElem? (i := 27) rfl)) (ty := (.object "org/bindery/Position")) (by decide) rfl rfl (g := (mkF m 22 #[.val (.ref a), .val (.ref s1), .val (.ref s2), .val .null, .val (.ref s4)] [(.ref s4), (.ref a)])) rfl rfl (hb hby d_prog_37_method_1_22)
  have Fw5 := F3.same W5
  replace E := E.wr W5
  clear F3
  replace Fw2 := Fw2.other W5 (Or.inr (slot_ne (Or.inr (hw _ (List.mem_of_getElem? (i := 50) rfl))) (Or.inr (hw _ (List.mem_of_getElem? (i := 56) rfl))) (by decide) (t := (.object "java/lang/String")) (t' := (.object "org/bindery/Position")) (by decide) (by decide)))
  replace Fw3 := Fw3.other W5 (Or.inr (slot_ne (Or.inr (hw _ (List.mem_of_getElem? (i := 52) rfl))) (Or.inr (hw _ (List.mem_of_getElem? (i := 56) rfl))) (by decide) (t := (.object "java/lang/String")) (t' := (.object "org/bindery/Position")) (by decide) (by decide)))
  replace Fw4 := Fw4.other W5 (Or.inr (slot_ne (Or.inr (hw _ (List.mem_of_getElem? (i := 54) rfl))) (Or.inr (hw _ (List.mem_of_getElem? (i := 56) rfl))) (by decide) (t := (.object "java/lang/String")) (t' := (.object "org/bindery/Position")) (by decide) (by decide)))
  replace O := O.wr W5 ga
  replace K := K.wr W5 (Or.inl (List.mem_of_getElem? (i := 0) rfl))
  replace N := Fr.snoc X5 N ga
  refine own_go (B := T5.setTop (mkF m 25 #[.val (.ref a), .val (.ref s1), .val (.ref s2), .val .null, .val (.ref s4)] [])) st5 ?_
  obtain ⟨fs, hr, hrun, hended, hW, hsame⟩ := X5.leave (v := none) (fun _ => rfl)
  refine ⟨_, _, X5.returnOut hx Bd.returns (hb hby d_prog_37_method_1_25) hr, hfin _ _ ⟨hrun, hended, _, _, rfl, ?_, ⟨_, rfl⟩, hW, hsame.mono (by decide) (by decide)⟩⟩
  show QDeI Z a s1 s2 s4 h0 n0 _ T5.heap _
  rw [e5]
  exact ⟨rfl, N, K, Fw2, Fw3⟩
def QIs (Z : State) (a : Addr) (x1 : Addr) (tx1 : Addr) (kx1 : ClassId) (csx1 : List Int32) (x2 : Addr) (tx2 : Addr) (kx2 : ClassId) (csx2 : List Int32) (y1 : Addr) (ty1 : Addr) (ky1 : ClassId) (csy1 : List Int32) (y2 : Addr) (ty2 : Addr) (ky2 : ClassId) (csy2 : List Int32) (zc : Int32) (h0 : Heap) (n0 : Nat) (v : Option Value) (h : Heap) (L : List Loc) : Prop := ∃ b : Int32, v = some (.int b) ∧ Fr n0 L ∧ h = h0 ∧ ((csx1 = csy1 ∧ csx2 = csy2) → b = (1 : Int32)) ∧ (¬ (csx1 = csy1 ∧ csx2 = csy2) → b = (0 : Int32))
theorem ef_Is (m : MethodId) (a : Addr) (y1 : Addr) (y2 : Addr) : entryFrame m #[(.ref a), (.ref y1), (.ref y2)] 3 = mkF m 0 #[.val (.ref a), .val (.ref y1), .val (.ref y2)] [] := by first | (simp [entryFrame, mkF, argsToLocals, Value.category]; done) | rfl | (rfl)
set_option maxRecDepth 65536 in
set_option maxHeartbeats 40000000 in
theorem rmIs (l : Launch) (Z : State) (a0 : Array Value) (hw : ∀ d ∈ tables_1, d.before a0 Z = true) (ws : List Jvm.Cond) (a : Addr) (x1 : Addr) (tx1 : Addr) (kx1 : ClassId) (csx1 : List Int32) (x2 : Addr) (tx2 : Addr) (kx2 : ClassId) (csx2 : List Int32) (y1 : Addr) (ty1 : Addr) (ky1 : ClassId) (csy1 : List Int32) (y2 : Addr) (ty2 : Addr) (ky2 : ClassId) (csy2 : List Int32) (zc : Int32) (h0 : Heap) (n0 : Nat) (O : Old Z n0 h0) (Fn : Fld Z h0 a "org/bindery/DocumentElement" "namespace" "Ljava/lang/String;" (.ref x1)) (Fl : Fld Z h0 a "org/bindery/DocumentElement" "localName" "Ljava/lang/String;" (.ref x2)) (x1_0 : Exa Z h0 x1 "java/lang/String") (x1_1 : Fld Z h0 x1 "java/lang/String" "coder" "B" (.int (0 : Int32))) (x1_2 : Fld Z h0 x1 "java/lang/String" "value" "[B" (.ref tx1)) (x1_3 : Arv Z h0 tx1 kx1 .byte (Int32.ofNat csx1.length) (own_bs csx1) (.int (0 : Int32))) (x2_0 : Exa Z h0 x2 "java/lang/String") (x2_1 : Fld Z h0 x2 "java/lang/String" "coder" "B" (.int (0 : Int32))) (x2_2 : Fld Z h0 x2 "java/lang/String" "value" "[B" (.ref tx2)) (x2_3 : Arv Z h0 tx2 kx2 .byte (Int32.ofNat csx2.length) (own_bs csx2) (.int (0 : Int32))) (y1_0 : Exa Z h0 y1 "java/lang/String") (y1_1 : Fld Z h0 y1 "java/lang/String" "coder" "B" (.int (0 : Int32))) (y1_2 : Fld Z h0 y1 "java/lang/String" "value" "[B" (.ref ty1)) (y1_3 : Arv Z h0 ty1 ky1 .byte (Int32.ofNat csy1.length) (own_bs csy1) (.int (0 : Int32))) (y2_0 : Exa Z h0 y2 "java/lang/String") (y2_1 : Fld Z h0 y2 "java/lang/String" "coder" "B" (.int (0 : Int32))) (y2_2 : Fld Z h0 y2 "java/lang/String" "value" "[B" (.ref ty2)) (y2_3 : Arv Z h0 ty2 ky2 .byte (Int32.ofNat csy2.length) (own_bs csy2) (.int (0 : Int32))) (S_C : Sta Z Z.heap "java/lang/String" "COMPACT_STRINGS" "Z" (.int zc)) (hcs : ¬ zc = (0 : Int32)) (bx1 : ∀ c ∈ csx1, ¬ c < 0 ∧ ¬ (255 : Int32) < c) (lx1 : csx1.length ≤ 4000) (bx2 : ∀ c ∈ csx2, ¬ c < 0 ∧ ¬ (255 : Int32) < c) (lx2 : csx2.length ≤ 4000) (by1 : ∀ c ∈ csy1, ¬ c < 0 ∧ ¬ (255 : Int32) < c) (ly1 : csy1.length ≤ 4000) (by2 : ∀ c ∈ csy2, ¬ c < 0 ∧ ¬ (255 : Int32) < c) (ly2 : csy2.length ≤ 4000) :
    MetFree l (⟨"org/bindery/DocumentElement", "is", "(Ljava/lang/String;Ljava/lang/String;)Z"⟩ : MethodName) (head1 (Jvm.Cond.code (⟨"org/bindery/DocumentElement", "is", "(Ljava/lang/String;Ljava/lang/String;)Z"⟩ : MethodName) prog_37_method_3_code 3 (some .boolean) :: ws) ({ frames := 2, cells := 0, slots := 0, locals := 28 } : Room)) (fun as_ U => as_ = #[(.ref a), (.ref y1), (.ref y2)] ∧ Z.Warmed39 U.vm ∧ U.heap = h0) (fun _ _ _ _ _ => True) (fun _ U oo_ U' => ∃ vv_ LL_, oo_ = .returned vv_ ∧ QIs Z a x1 tx1 kx1 csx1 x2 tx2 kx2 csx2 y1 ty1 ky1 csy1 y2 ty2 ky2 csy2 zc h0 n0 vv_ U'.heap LL_ ∧ FrameEnd U oo_ U' LL_ ({ frames := 2, cells := 0, slots := 0, locals := 28 } : Room).cells ({ frames := 2, cells := 0, slots := 0, locals := 28 } : Room).slots) := by
  refine MetFree.of_bodySF (plainFor_of_name pn_4) hisR ?_
  intro p e s m args below meth c s₁ Bd hml0 hP hK
  obtain ⟨rfl, hZ, hh⟩ := hP
  have hx := Bd.exec
  have hby := Bd.bytes
  have hml : c.maxLocals = 3 := hml0
  have hown : s.vm.findClass "org/bindery/DocumentElement" = some m.cls := findClass_of_methodNamed Bd.named
  have hnm := (name_of_methodNamed Bd.named Bd.method).1
  have X0 : Stand p l e ({ frames := 2, cells := 0, slots := 0, locals := 28 } : Room) s m #[(.ref a), (.ref y1), (.ref y2)] below meth c s₁ [] 0 0 := Stand.of_body Bd
  have e0 : s₁.heap = h0 := by rw [← hh, Bd.state]; rfl
  have N := Fr.nil n0
  have K : Keep h0 h0 [] := Keep.refl h0 _
  refine own_go (B := s₁.setTop (mkF m 0 #[.val (.ref a), .val (.ref y1), .val (.ref y2)] [])) (fun t k => castTop (ef_Is m a y1 y2) k) ?_
  refine own_abs (fun P hfin => ?_)
  refine own_go (B := s₁.setTop (mkF m 1 #[.val (.ref a), .val (.ref y1), .val (.ref y2)] [(.ref a)])) (fun t k => ?_) ?_
  · show Steps p.tables e below (s₁.setTop (mkF m 0 #[.val (.ref a), .val (.ref y1), .val (.ref y2)] [])) _
    refine XS.aloadN X0.here hx rfl (hb hby d_prog_37_method_3_0) rfl rfl ?_
    show Steps p.tables e below (s₁.setTop (mkF m 1 #[.val (.ref a), .val (.ref y1), .val (.ref y2)] [(.ref a)])) _
    exact k
  obtain ⟨T1, X1, e1, st1⟩ := getF X0 hx hZ hown (host := "") (Or.inl (hw _ (List.mem_of_getElem? (i := 49) rfl))) Via.refl e0 Fn (g := (mkF m 1 #[.val (.ref a), .val (.ref y1), .val (.ref y2)] [(.ref a)])) rfl rfl (hb hby d_prog_37_method_3_1)
  refine own_go (B := T1.setTop (mkF m 4 #[.val (.ref a), .val (.ref y1), .val (.ref y2)] [(.ref x1)])) st1 ?_
  refine own_go (B := T1.setTop (mkF m 5 #[.val (.ref a), .val (.ref y1), .val (.ref y2)] [(.ref y1), (.ref x1)])) (fun t k => ?_) ?_
  · show Steps p.tables e below (T1.setTop (mkF m 4 #[.val (.ref a), .val (.ref y1), .val (.ref y2)] [(.ref x1)])) _
    refine XS.aloadN X1.here hx rfl (hb hby d_prog_37_method_3_4) rfl rfl ?_
    show Steps p.tables e below (T1.setTop (mkF m 5 #[.val (.ref a), .val (.ref y1), .val (.ref y2)] [(.ref y1), (.ref x1)])) _
    exact k
  have heq : ∀ d ∈ StrChars.Road.wordsEq, d.before a0 Z = true := fun d hd => hw d ((by decide +kernel : ∀ d ∈ StrChars.Road.wordsEq, d ∈ tables_1) d hd)
  -- pc 5: java/lang/String.equals
  obtain ⟨cq2, kq2, q2a, q2b, q2c⟩ := isOf hZ e1 x1_0
  obtain ⟨_, _, ⟨T2, L2, k2, n2⟩, -, X2, ⟨Lc2, hQ2, l2, y2, z2⟩, st2⟩ := X1.virtualBack hx (y := (⟨"java/lang/String", "equals", "(Ljava/lang/Object;)Z"⟩ : MethodName)) (z := (⟨"java/lang/String", "equals", "(Ljava/lang/Object;)Z"⟩ : MethodName)) hown (mvT hZ (hw _ (List.mem_of_getElem? (i := 62) rfl))) (mvT hZ (hw _ (List.mem_of_getElem? (i := 63) rfl))) (notFace_of_selects (args := #[]) (mvT hZ (hw _ (List.mem_of_getElem? (i := 65) rfl)))) (mvT hZ (hw _ (List.mem_of_getElem? (i := 65) rfl))) (mvT hZ (hw _ (List.mem_of_getElem? (i := 64) rfl))) (by decide) (StrChars.Road.eqW (W := 0) hZ heq (kI := 4) (hw _ (List.mem_of_getElem? (i := 5) rfl)) x1_0 x1_2 x1_1 x1_3 (StrChars.Road.codOf (n := csx1.length) rfl (fun c hc => (bx1 c hc).2)) (own_up bx1) lx1 y1_0 y1_2 y1_1 y1_3 (StrChars.Road.codOf (n := csy1.length) rfl (fun c hc => (by1 c hc).2)) (own_up by1) ly1 (S_C.ext O.2) hcs (by decide) (by decide)) q2a q2c (g := (mkF m 5 #[.val (.ref a), .val (.ref y1), .val (.ref y2)] [(.ref y1), (.ref x1)])) rfl (by rw [hml]; rfl) (Steps.refl _) (argsL := [(.ref y1)]) (rest := []) (lenOf pd_3 rfl) rfl (by show 2 * 0 + _ ≤ _; exact Nat.le_of_eq rfl) (hb hby d_prog_37_method_3_5) (fun _ hWm => ⟨rfl, e1, (by decide : 0 + 0 ≤ _), (by decide : 0 + 0 ≤ _)⟩)
  dsimp only [Pt.U, Pt.locs, Pt.cells, Pt.slots] at X2 l2 y2 z2 st2 hQ2
  subst l2 y2 z2
  obtain ⟨hcase2, rfl, e2⟩ := hQ2
  replace N := Fr.app N (Fr.nil n0)
  rcases hcase2 with ⟨rfl, q5⟩ | ⟨rfl, q5⟩
  · refine own_go (B := T2.setTop (mkF m 8 #[.val (.ref a), .val (.ref y1), .val (.ref y2)] [(.int (1 : Int32))])) (fun t k => st2.trans k) ?_
    refine own_go (B := T2.setTop (mkF m 12 #[.val (.ref a), .val (.ref y1), .val (.ref y2)] [(.ref a)])) (fun t k => ?_) ?_
    · show Steps p.tables e below (T2.setTop (mkF m 8 #[.val (.ref a), .val (.ref y1), .val (.ref y2)] [(.int (1 : Int32))])) _
      refine XS.ifNo X2.here hx rfl (hb hby d_prog_37_method_3_8) rfl ((if0 _ _).trans (feq (by decide)).1) ?_
      show Steps p.tables e below (T2.setTop (mkF m 11 #[.val (.ref a), .val (.ref y1), .val (.ref y2)] [])) _
      refine XS.aloadN X2.here hx rfl (hb hby d_prog_37_method_3_11) rfl rfl ?_
      show Steps p.tables e below (T2.setTop (mkF m 12 #[.val (.ref a), .val (.ref y1), .val (.ref y2)] [(.ref a)])) _
      exact k
    obtain ⟨T3, X3, e3, st3⟩ := getF X2 hx hZ hown (host := "") (Or.inl (hw _ (List.mem_of_getElem? (i := 51) rfl))) Via.refl e2 Fl (g := (mkF m 12 #[.val (.ref a), .val (.ref y1), .val (.ref y2)] [(.ref a)])) rfl rfl (hb hby d_prog_37_method_3_12)
    refine own_go (B := T3.setTop (mkF m 15 #[.val (.ref a), .val (.ref y1), .val (.ref y2)] [(.ref x2)])) st3 ?_
    refine own_go (B := T3.setTop (mkF m 16 #[.val (.ref a), .val (.ref y1), .val (.ref y2)] [(.ref y2), (.ref x2)])) (fun t k => ?_) ?_
    · show Steps p.tables e below (T3.setTop (mkF m 15 #[.val (.ref a), .val (.ref y1), .val (.ref y2)] [(.ref x2)])) _
      refine XS.aloadN X3.here hx rfl (hb hby d_prog_37_method_3_15) rfl rfl ?_
      show Steps p.tables e below (T3.setTop (mkF m 16 #[.val (.ref a), .val (.ref y1), .val (.ref y2)] [(.ref y2), (.ref x2)])) _
      exact k
    have heq : ∀ d ∈ StrChars.Road.wordsEq, d.before a0 Z = true := fun d hd => hw d ((by decide +kernel : ∀ d ∈ StrChars.Road.wordsEq, d ∈ tables_1) d hd)
    -- pc 16: java/lang/String.equals
    obtain ⟨cq4, kq4, q4a, q4b, q4c⟩ := isOf hZ e3 x2_0
    obtain ⟨_, _, ⟨T4, L4, k4, n4⟩, -, X4, ⟨Lc4, hQ4, l4, y4, z4⟩, st4⟩ := X3.virtualBack hx (y := (⟨"java/lang/String", "equals", "(Ljava/lang/Object;)Z"⟩ : MethodName)) (z := (⟨"java/lang/String", "equals", "(Ljava/lang/Object;)Z"⟩ : MethodName)) hown (mvT hZ (hw _ (List.mem_of_getElem? (i := 62) rfl))) (mvT hZ (hw _ (List.mem_of_getElem? (i := 63) rfl))) (notFace_of_selects (args := #[]) (mvT hZ (hw _ (List.mem_of_getElem? (i := 65) rfl)))) (mvT hZ (hw _ (List.mem_of_getElem? (i := 65) rfl))) (mvT hZ (hw _ (List.mem_of_getElem? (i := 64) rfl))) (by decide) (StrChars.Road.eqW (W := 0) hZ heq (kI := 4) (hw _ (List.mem_of_getElem? (i := 5) rfl)) x2_0 x2_2 x2_1 x2_3 (StrChars.Road.codOf (n := csx2.length) rfl (fun c hc => (bx2 c hc).2)) (own_up bx2) lx2 y2_0 y2_2 y2_1 y2_3 (StrChars.Road.codOf (n := csy2.length) rfl (fun c hc => (by2 c hc).2)) (own_up by2) ly2 (S_C.ext O.2) hcs (by decide) (by decide)) q4a q4c (g := (mkF m 16 #[.val (.ref a), .val (.ref y1), .val (.ref y2)] [(.ref y2), (.ref x2)])) rfl (by rw [hml]; rfl) (Steps.refl _) (argsL := [(.ref y2)]) (rest := []) (lenOf pd_3 rfl) rfl (by show 2 * 0 + _ ≤ _; exact Nat.le_of_eq rfl) (hb hby d_prog_37_method_3_16) (fun _ hWm => ⟨rfl, e3, (by decide : 0 + 0 ≤ _), (by decide : 0 + 0 ≤ _)⟩)
    dsimp only [Pt.U, Pt.locs, Pt.cells, Pt.slots] at X4 l4 y4 z4 st4 hQ4
    subst l4 y4 z4
    obtain ⟨hcase4, rfl, e4⟩ := hQ4
    replace N := Fr.app N (Fr.nil n0)
    rcases hcase4 with ⟨rfl, q16⟩ | ⟨rfl, q16⟩
    · refine own_go (B := T4.setTop (mkF m 19 #[.val (.ref a), .val (.ref y1), .val (.ref y2)] [(.int (1 : Int32))])) (fun t k => st4.trans k) ?_
      refine own_go (B := T4.setTop (mkF m 27 #[.val (.ref a), .val (.ref y1), .val (.ref y2)] [(.int (1 : Int32))])) (fun t k => ?_) ?_
      · show Steps p.tables e below (T4.setTop (mkF m 19 #[.val (.ref a), .val (.ref y1), .val (.ref y2)] [(.int (1 : Int32))])) _
        refine XS.ifNo X4.here hx rfl (hb hby d_prog_37_method_3_19) rfl ((if0 _ _).trans (feq (by decide)).1) ?_
        show Steps p.tables e below (T4.setTop (mkF m 22 #[.val (.ref a), .val (.ref y1), .val (.ref y2)] [])) _
        refine XS.iconst X4.here hx rfl (hb hby d_prog_37_method_3_22) ?_
        show Steps p.tables e below (T4.setTop (mkF m 23 #[.val (.ref a), .val (.ref y1), .val (.ref y2)] [(.int (1 : Int32))])) _
        refine XS.goto X4.here hx rfl (pc0 := 23) (pc' := 27) rfl (hb hby d_prog_37_method_3_23) (by decide) (by decide) ?_
        show Steps p.tables e below (T4.setTop (mkF m 27 #[.val (.ref a), .val (.ref y1), .val (.ref y2)] [(.int (1 : Int32))])) _
        exact k
      obtain ⟨fs, hr, hrun, hended, hW, hsame⟩ := X4.leave (v := some (.int (1 : Int32))) (fun h => by rw [Bd.returns] at h; cases h)
      refine ⟨_, _, retN X4 hx (t := .boolean) Bd.returns (by simp) (hb hby d_prog_37_method_3_27) hr, hfin _ _ ⟨hrun, hended, _, _, rfl, ?_, ⟨_, rfl⟩, hW, hsame.mono (by decide) (by decide)⟩⟩
      show QIs Z a x1 tx1 kx1 csx1 x2 tx2 kx2 csx2 y1 ty1 ky1 csy1 y2 ty2 ky2 csy2 zc h0 n0 _ T4.heap _
      exact ⟨(1 : Int32), rfl, N, e4, (fun _ => rfl), (fun q => absurd ⟨q5, q16⟩ q)⟩
    · refine own_go (B := T4.setTop (mkF m 19 #[.val (.ref a), .val (.ref y1), .val (.ref y2)] [(.int (0 : Int32))])) (fun t k => st4.trans k) ?_
      refine own_go (B := T4.setTop (mkF m 27 #[.val (.ref a), .val (.ref y1), .val (.ref y2)] [(.int (0 : Int32))])) (fun t k => ?_) ?_
      · show Steps p.tables e below (T4.setTop (mkF m 19 #[.val (.ref a), .val (.ref y1), .val (.ref y2)] [(.int (0 : Int32))])) _
        refine XS.ifYes X4.here hx rfl (pc0 := 19) (pc' := 26) rfl (hb hby d_prog_37_method_3_19) rfl ((if0 _ _).trans (teq (by decide)).1) (by decide) (by decide) ?_
        show Steps p.tables e below (T4.setTop (mkF m 26 #[.val (.ref a), .val (.ref y1), .val (.ref y2)] [])) _
        refine XS.iconst X4.here hx rfl (hb hby d_prog_37_method_3_26) ?_
        show Steps p.tables e below (T4.setTop (mkF m 27 #[.val (.ref a), .val (.ref y1), .val (.ref y2)] [(.int (0 : Int32))])) _
        exact k
      obtain ⟨fs, hr, hrun, hended, hW, hsame⟩ := X4.leave (v := some (.int (0 : Int32))) (fun h => by rw [Bd.returns] at h; cases h)
      refine ⟨_, _, retN X4 hx (t := .boolean) Bd.returns (by simp) (hb hby d_prog_37_method_3_27) hr, hfin _ _ ⟨hrun, hended, _, _, rfl, ?_, ⟨_, rfl⟩, hW, hsame.mono (by decide) (by decide)⟩⟩
      show QIs Z a x1 tx1 kx1 csx1 x2 tx2 kx2 csx2 y1 ty1 ky1 csy1 y2 ty2 ky2 csy2 zc h0 n0 _ T4.heap _
      exact ⟨(0 : Int32), rfl, N, e4, (fun q => absurd q.2 q16), (fun _ => rfl)⟩
  · refine own_go (B := T2.setTop (mkF m 8 #[.val (.ref a), .val (.ref y1), .val (.ref y2)] [(.int (0 : Int32))])) (fun t k => st2.trans k) ?_
    refine own_go (B := T2.setTop (mkF m 27 #[.val (.ref a), .val (.ref y1), .val (.ref y2)] [(.int (0 : Int32))])) (fun t k => ?_) ?_
    · show Steps p.tables e below (T2.setTop (mkF m 8 #[.val (.ref a), .val (.ref y1), .val (.ref y2)] [(.int (0 : Int32))])) _
      refine XS.ifYes X2.here hx rfl (pc0 := 8) (pc' := 26) rfl (hb hby d_prog_37_method_3_8) rfl ((if0 _ _).trans (teq (by decide)).1) (by decide) (by decide) ?_
      show Steps p.tables e below (T2.setTop (mkF m 26 #[.val (.ref a), .val (.ref y1), .val (.ref y2)] [])) _
      refine XS.iconst X2.here hx rfl (hb hby d_prog_37_method_3_26) ?_
      show Steps p.tables e below (T2.setTop (mkF m 27 #[.val (.ref a), .val (.ref y1), .val (.ref y2)] [(.int (0 : Int32))])) _
      exact k
    obtain ⟨fs, hr, hrun, hended, hW, hsame⟩ := X2.leave (v := some (.int (0 : Int32))) (fun h => by rw [Bd.returns] at h; cases h)
    refine ⟨_, _, retN X2 hx (t := .boolean) Bd.returns (by simp) (hb hby d_prog_37_method_3_27) hr, hfin _ _ ⟨hrun, hended, _, _, rfl, ?_, ⟨_, rfl⟩, hW, hsame.mono (by decide) (by decide)⟩⟩
    show QIs Z a x1 tx1 kx1 csx1 x2 tx2 kx2 csx2 y1 ty1 ky1 csy1 y2 ty2 ky2 csy2 zc h0 n0 _ T2.heap _
    exact ⟨(0 : Int32), rfl, N, e2, (fun q => absurd q.1 q5), (fun _ => rfl)⟩
def QSame (Z : State) (p1 : Int32) (p2 : Int32) (p3 : Int32) (p4 : Int32) (p5 : Int32) (p6 : Int32) (h0 : Heap) (n0 : Nat) (v : Option Value) (h : Heap) (L : List Loc) : Prop := ∃ b : Int32, v = some (.int b) ∧ Fr n0 L ∧ h = h0 ∧ (own_cs p1 p2 p3 = own_cs p4 p5 p6 → b = (1 : Int32)) ∧ (¬ own_cs p1 p2 p3 = own_cs p4 p5 p6 → b = (0 : Int32))
theorem ef_Same (m : MethodId) (p1 : Int32) (p2 : Int32) (p3 : Int32) (p4 : Int32) (p5 : Int32) (p6 : Int32) : entryFrame m #[(.int p1), (.int p2), (.int p3), (.int p4), (.int p5), (.int p6)] 6 = mkF m 0 #[.val (.int p1), .val (.int p2), .val (.int p3), .val (.int p4), .val (.int p5), .val (.int p6)] [] := by first | (simp [entryFrame, mkF, argsToLocals, Value.category]; done) | rfl | (rfl)
set_option maxRecDepth 65536 in
set_option maxHeartbeats 40000000 in
theorem rmSame (l : Launch) (Z : State) (a0 : Array Value) (hw : ∀ d ∈ tables_1, d.before a0 Z = true) (ws : List Jvm.Cond) (p1 : Int32) (p2 : Int32) (p3 : Int32) (p4 : Int32) (p5 : Int32) (p6 : Int32) (h0 : Heap) (n0 : Nat) (O : Old Z n0 h0) (hl1 : p1 = (0 : Int32) ∨ p1 = (1 : Int32) ∨ p1 = (2 : Int32)) (hl4 : p4 = (0 : Int32) ∨ p4 = (1 : Int32) ∨ p4 = (2 : Int32)) :
    MetFree l (⟨"org/bindery/DocumentElementIsPinLaw", "same", "(IIIIII)Z"⟩ : MethodName) (head1 (Jvm.Cond.code (⟨"org/bindery/DocumentElementIsPinLaw", "same", "(IIIIII)Z"⟩ : MethodName) method_3_code 6 (some .boolean) :: ws) ({ frames := 0, cells := 0, slots := 0, locals := 0 } : Room)) (fun as_ U => as_ = #[(.int p1), (.int p2), (.int p3), (.int p4), (.int p5), (.int p6)] ∧ Z.Warmed39 U.vm ∧ U.heap = h0) (fun _ _ _ _ _ => True) (fun _ U oo_ U' => ∃ vv_ LL_, oo_ = .returned vv_ ∧ QSame Z p1 p2 p3 p4 p5 p6 h0 n0 vv_ U'.heap LL_ ∧ FrameEnd U oo_ U' LL_ ({ frames := 0, cells := 0, slots := 0, locals := 0 } : Room).cells ({ frames := 0, cells := 0, slots := 0, locals := 0 } : Room).slots) := by
  refine MetFree.of_bodySF (plainFor_of_name pn_2) hisR ?_
  intro p e s m args below meth c s₁ Bd hml0 hP hK
  obtain ⟨rfl, hZ, hh⟩ := hP
  have hx := Bd.exec
  have hby := Bd.bytes
  have hml : c.maxLocals = 6 := hml0
  have hown : s.vm.findClass "org/bindery/DocumentElementIsPinLaw" = some m.cls := findClass_of_methodNamed Bd.named
  have hnm := (name_of_methodNamed Bd.named Bd.method).1
  have X0 : Stand p l e ({ frames := 0, cells := 0, slots := 0, locals := 0 } : Room) s m #[(.int p1), (.int p2), (.int p3), (.int p4), (.int p5), (.int p6)] below meth c s₁ [] 0 0 := Stand.of_body Bd
  have e0 : s₁.heap = h0 := by rw [← hh, Bd.state]; rfl
  have N := Fr.nil n0
  have K : Keep h0 h0 [] := Keep.refl h0 _
  refine own_go (B := s₁.setTop (mkF m 0 #[.val (.int p1), .val (.int p2), .val (.int p3), .val (.int p4), .val (.int p5), .val (.int p6)] [])) (fun t k => castTop (ef_Same m p1 p2 p3 p4 p5 p6) k) ?_
  refine own_abs (fun P hfin => ?_)
  refine own_go (B := s₁.setTop (mkF m 2 #[.val (.int p1), .val (.int p2), .val (.int p3), .val (.int p4), .val (.int p5), .val (.int p6)] [(.int p4), (.int p1)])) (fun t k => ?_) ?_
  · show Steps p.tables e below (s₁.setTop (mkF m 0 #[.val (.int p1), .val (.int p2), .val (.int p3), .val (.int p4), .val (.int p5), .val (.int p6)] [])) _
    refine XS.iloadN X0.here hx rfl (hb hby d_method_3_0) rfl ?_
    show Steps p.tables e below (s₁.setTop (mkF m 1 #[.val (.int p1), .val (.int p2), .val (.int p3), .val (.int p4), .val (.int p5), .val (.int p6)] [(.int p1)])) _
    refine XS.iloadN X0.here hx rfl (hb hby d_method_3_1) rfl ?_
    show Steps p.tables e below (s₁.setTop (mkF m 2 #[.val (.int p1), .val (.int p2), .val (.int p3), .val (.int p4), .val (.int p5), .val (.int p6)] [(.int p4), (.int p1)])) _
    exact k
  by_cases s2 : p1 = p4
  · refine own_go (B := s₁.setTop (mkF m 9 #[.val (.int p1), .val (.int p2), .val (.int p3), .val (.int p4), .val (.int p5), .val (.int p6)] [(.int (1 : Int32)), (.int p1)])) (fun t k => ?_) ?_
    · show Steps p.tables e below (s₁.setTop (mkF m 2 #[.val (.int p1), .val (.int p2), .val (.int p3), .val (.int p4), .val (.int p5), .val (.int p6)] [(.int p4), (.int p1)])) _
      refine XS.icmpYes X0.here hx rfl (pc0 := 2) (pc' := 7) rfl (hb hby d_method_3_2) rfl (teq s2).1 (by decide) (by decide) ?_
      show Steps p.tables e below (s₁.setTop (mkF m 7 #[.val (.int p1), .val (.int p2), .val (.int p3), .val (.int p4), .val (.int p5), .val (.int p6)] [])) _
      refine XS.iloadN X0.here hx rfl (hb hby d_method_3_7) rfl ?_
      show Steps p.tables e below (s₁.setTop (mkF m 8 #[.val (.int p1), .val (.int p2), .val (.int p3), .val (.int p4), .val (.int p5), .val (.int p6)] [(.int p1)])) _
      refine XS.iconst X0.here hx rfl (hb hby d_method_3_8) ?_
      show Steps p.tables e below (s₁.setTop (mkF m 9 #[.val (.int p1), .val (.int p2), .val (.int p3), .val (.int p4), .val (.int p5), .val (.int p6)] [(.int (1 : Int32)), (.int p1)])) _
      exact k
    by_cases s9 : p1 < (1 : Int32)
    · refine own_go (B := s₁.setTop (mkF m 22 #[.val (.int p1), .val (.int p2), .val (.int p3), .val (.int p4), .val (.int p5), .val (.int p6)] [(.int (2 : Int32)), (.int p1)])) (fun t k => ?_) ?_
      · show Steps p.tables e below (s₁.setTop (mkF m 9 #[.val (.int p1), .val (.int p2), .val (.int p3), .val (.int p4), .val (.int p5), .val (.int p6)] [(.int (1 : Int32)), (.int p1)])) _
        refine XS.icmpYes X0.here hx rfl (pc0 := 9) (pc' := 20) rfl (hb hby d_method_3_9) rfl (tlt s9).1 (by decide) (by decide) ?_
        show Steps p.tables e below (s₁.setTop (mkF m 20 #[.val (.int p1), .val (.int p2), .val (.int p3), .val (.int p4), .val (.int p5), .val (.int p6)] [])) _
        refine XS.iloadN X0.here hx rfl (hb hby d_method_3_20) rfl ?_
        show Steps p.tables e below (s₁.setTop (mkF m 21 #[.val (.int p1), .val (.int p2), .val (.int p3), .val (.int p4), .val (.int p5), .val (.int p6)] [(.int p1)])) _
        refine XS.iconst X0.here hx rfl (hb hby d_method_3_21) ?_
        show Steps p.tables e below (s₁.setTop (mkF m 22 #[.val (.int p1), .val (.int p2), .val (.int p3), .val (.int p4), .val (.int p5), .val (.int p6)] [(.int (2 : Int32)), (.int p1)])) _
        exact k
      by_cases s22 : p1 < (2 : Int32)
      · refine own_go (B := s₁.setTop (mkF m 34 #[.val (.int p1), .val (.int p2), .val (.int p3), .val (.int p4), .val (.int p5), .val (.int p6)] [(.int (1 : Int32))])) (fun t k => ?_) ?_
        · show Steps p.tables e below (s₁.setTop (mkF m 22 #[.val (.int p1), .val (.int p2), .val (.int p3), .val (.int p4), .val (.int p5), .val (.int p6)] [(.int (2 : Int32)), (.int p1)])) _
          refine XS.icmpYes X0.here hx rfl (pc0 := 22) (pc' := 33) rfl (hb hby d_method_3_22) rfl (tlt s22).1 (by decide) (by decide) ?_
          show Steps p.tables e below (s₁.setTop (mkF m 33 #[.val (.int p1), .val (.int p2), .val (.int p3), .val (.int p4), .val (.int p5), .val (.int p6)] [])) _
          refine XS.iconst X0.here hx rfl (hb hby d_method_3_33) ?_
          show Steps p.tables e below (s₁.setTop (mkF m 34 #[.val (.int p1), .val (.int p2), .val (.int p3), .val (.int p4), .val (.int p5), .val (.int p6)] [(.int (1 : Int32))])) _
          exact k
        obtain ⟨fs, hr, hrun, hended, hW, hsame⟩ := X0.leave (v := some (.int (1 : Int32))) (fun h => by rw [Bd.returns] at h; cases h)
        refine ⟨_, _, retN X0 hx (t := .boolean) Bd.returns (by simp) (hb hby d_method_3_34) hr, hfin _ _ ⟨hrun, hended, _, _, rfl, ?_, ⟨_, rfl⟩, hW, hsame.mono (by decide) (by decide)⟩⟩
        show QSame Z p1 p2 p3 p4 p5 p6 h0 n0 _ s₁.heap _
        exact ⟨(1 : Int32), rfl, N, e0, (fun _ => rfl), (fun q => absurd ((own_same_iff hl1 hl4).mpr ⟨s2, (fun z => absurd s9 z), (fun z => absurd s22 z)⟩) q)⟩
      · refine own_go (B := s₁.setTop (mkF m 28 #[.val (.int p1), .val (.int p2), .val (.int p3), .val (.int p4), .val (.int p5), .val (.int p6)] [(.int p6), (.int p3)])) (fun t k => ?_) ?_
        · show Steps p.tables e below (s₁.setTop (mkF m 22 #[.val (.int p1), .val (.int p2), .val (.int p3), .val (.int p4), .val (.int p5), .val (.int p6)] [(.int (2 : Int32)), (.int p1)])) _
          refine XS.icmpNo X0.here hx rfl (hb hby d_method_3_22) rfl (flt s22).1 ?_
          show Steps p.tables e below (s₁.setTop (mkF m 25 #[.val (.int p1), .val (.int p2), .val (.int p3), .val (.int p4), .val (.int p5), .val (.int p6)] [])) _
          refine XS.iloadN X0.here hx rfl (hb hby d_method_3_25) rfl ?_
          show Steps p.tables e below (s₁.setTop (mkF m 26 #[.val (.int p1), .val (.int p2), .val (.int p3), .val (.int p4), .val (.int p5), .val (.int p6)] [(.int p3)])) _
          refine XS.iload X0.here hx rfl (hb hby d_method_3_26) rfl ?_
          show Steps p.tables e below (s₁.setTop (mkF m 28 #[.val (.int p1), .val (.int p2), .val (.int p3), .val (.int p4), .val (.int p5), .val (.int p6)] [(.int p6), (.int p3)])) _
          exact k
        by_cases s28 : p3 = p6
        · refine own_go (B := s₁.setTop (mkF m 34 #[.val (.int p1), .val (.int p2), .val (.int p3), .val (.int p4), .val (.int p5), .val (.int p6)] [(.int (1 : Int32))])) (fun t k => ?_) ?_
          · show Steps p.tables e below (s₁.setTop (mkF m 28 #[.val (.int p1), .val (.int p2), .val (.int p3), .val (.int p4), .val (.int p5), .val (.int p6)] [(.int p6), (.int p3)])) _
            refine XS.icmpYes X0.here hx rfl (pc0 := 28) (pc' := 33) rfl (hb hby d_method_3_28) rfl (teq s28).1 (by decide) (by decide) ?_
            show Steps p.tables e below (s₁.setTop (mkF m 33 #[.val (.int p1), .val (.int p2), .val (.int p3), .val (.int p4), .val (.int p5), .val (.int p6)] [])) _
            refine XS.iconst X0.here hx rfl (hb hby d_method_3_33) ?_
            show Steps p.tables e below (s₁.setTop (mkF m 34 #[.val (.int p1), .val (.int p2), .val (.int p3), .val (.int p4), .val (.int p5), .val (.int p6)] [(.int (1 : Int32))])) _
            exact k
          obtain ⟨fs, hr, hrun, hended, hW, hsame⟩ := X0.leave (v := some (.int (1 : Int32))) (fun h => by rw [Bd.returns] at h; cases h)
          refine ⟨_, _, retN X0 hx (t := .boolean) Bd.returns (by simp) (hb hby d_method_3_34) hr, hfin _ _ ⟨hrun, hended, _, _, rfl, ?_, ⟨_, rfl⟩, hW, hsame.mono (by decide) (by decide)⟩⟩
          show QSame Z p1 p2 p3 p4 p5 p6 h0 n0 _ s₁.heap _
          exact ⟨(1 : Int32), rfl, N, e0, (fun _ => rfl), (fun q => absurd ((own_same_iff hl1 hl4).mpr ⟨s2, (fun z => absurd s9 z), (fun _ => s28)⟩) q)⟩
        · refine own_go (B := s₁.setTop (mkF m 32 #[.val (.int p1), .val (.int p2), .val (.int p3), .val (.int p4), .val (.int p5), .val (.int p6)] [(.int (0 : Int32))])) (fun t k => ?_) ?_
          · show Steps p.tables e below (s₁.setTop (mkF m 28 #[.val (.int p1), .val (.int p2), .val (.int p3), .val (.int p4), .val (.int p5), .val (.int p6)] [(.int p6), (.int p3)])) _
            refine XS.icmpNo X0.here hx rfl (hb hby d_method_3_28) rfl (feq s28).1 ?_
            show Steps p.tables e below (s₁.setTop (mkF m 31 #[.val (.int p1), .val (.int p2), .val (.int p3), .val (.int p4), .val (.int p5), .val (.int p6)] [])) _
            refine XS.iconst X0.here hx rfl (hb hby d_method_3_31) ?_
            show Steps p.tables e below (s₁.setTop (mkF m 32 #[.val (.int p1), .val (.int p2), .val (.int p3), .val (.int p4), .val (.int p5), .val (.int p6)] [(.int (0 : Int32))])) _
            exact k
          obtain ⟨fs, hr, hrun, hended, hW, hsame⟩ := X0.leave (v := some (.int (0 : Int32))) (fun h => by rw [Bd.returns] at h; cases h)
          refine ⟨_, _, retN X0 hx (t := .boolean) Bd.returns (by simp) (hb hby d_method_3_32) hr, hfin _ _ ⟨hrun, hended, _, _, rfl, ?_, ⟨_, rfl⟩, hW, hsame.mono (by decide) (by decide)⟩⟩
          show QSame Z p1 p2 p3 p4 p5 p6 h0 n0 _ s₁.heap _
          exact ⟨(0 : Int32), rfl, N, e0, (fun q => absurd ((own_same_iff hl1 hl4).mp q) (fun z => s28 (z.2.2 s22))), (fun _ => rfl)⟩
    · refine own_go (B := s₁.setTop (mkF m 15 #[.val (.int p1), .val (.int p2), .val (.int p3), .val (.int p4), .val (.int p5), .val (.int p6)] [(.int p5), (.int p2)])) (fun t k => ?_) ?_
      · show Steps p.tables e below (s₁.setTop (mkF m 9 #[.val (.int p1), .val (.int p2), .val (.int p3), .val (.int p4), .val (.int p5), .val (.int p6)] [(.int (1 : Int32)), (.int p1)])) _
        refine XS.icmpNo X0.here hx rfl (hb hby d_method_3_9) rfl (flt s9).1 ?_
        show Steps p.tables e below (s₁.setTop (mkF m 12 #[.val (.int p1), .val (.int p2), .val (.int p3), .val (.int p4), .val (.int p5), .val (.int p6)] [])) _
        refine XS.iloadN X0.here hx rfl (hb hby d_method_3_12) rfl ?_
        show Steps p.tables e below (s₁.setTop (mkF m 13 #[.val (.int p1), .val (.int p2), .val (.int p3), .val (.int p4), .val (.int p5), .val (.int p6)] [(.int p2)])) _
        refine XS.iload X0.here hx rfl (hb hby d_method_3_13) rfl ?_
        show Steps p.tables e below (s₁.setTop (mkF m 15 #[.val (.int p1), .val (.int p2), .val (.int p3), .val (.int p4), .val (.int p5), .val (.int p6)] [(.int p5), (.int p2)])) _
        exact k
      by_cases s15 : p2 = p5
      · refine own_go (B := s₁.setTop (mkF m 22 #[.val (.int p1), .val (.int p2), .val (.int p3), .val (.int p4), .val (.int p5), .val (.int p6)] [(.int (2 : Int32)), (.int p1)])) (fun t k => ?_) ?_
        · show Steps p.tables e below (s₁.setTop (mkF m 15 #[.val (.int p1), .val (.int p2), .val (.int p3), .val (.int p4), .val (.int p5), .val (.int p6)] [(.int p5), (.int p2)])) _
          refine XS.icmpYes X0.here hx rfl (pc0 := 15) (pc' := 20) rfl (hb hby d_method_3_15) rfl (teq s15).1 (by decide) (by decide) ?_
          show Steps p.tables e below (s₁.setTop (mkF m 20 #[.val (.int p1), .val (.int p2), .val (.int p3), .val (.int p4), .val (.int p5), .val (.int p6)] [])) _
          refine XS.iloadN X0.here hx rfl (hb hby d_method_3_20) rfl ?_
          show Steps p.tables e below (s₁.setTop (mkF m 21 #[.val (.int p1), .val (.int p2), .val (.int p3), .val (.int p4), .val (.int p5), .val (.int p6)] [(.int p1)])) _
          refine XS.iconst X0.here hx rfl (hb hby d_method_3_21) ?_
          show Steps p.tables e below (s₁.setTop (mkF m 22 #[.val (.int p1), .val (.int p2), .val (.int p3), .val (.int p4), .val (.int p5), .val (.int p6)] [(.int (2 : Int32)), (.int p1)])) _
          exact k
        by_cases s22 : p1 < (2 : Int32)
        · refine own_go (B := s₁.setTop (mkF m 34 #[.val (.int p1), .val (.int p2), .val (.int p3), .val (.int p4), .val (.int p5), .val (.int p6)] [(.int (1 : Int32))])) (fun t k => ?_) ?_
          · show Steps p.tables e below (s₁.setTop (mkF m 22 #[.val (.int p1), .val (.int p2), .val (.int p3), .val (.int p4), .val (.int p5), .val (.int p6)] [(.int (2 : Int32)), (.int p1)])) _
            refine XS.icmpYes X0.here hx rfl (pc0 := 22) (pc' := 33) rfl (hb hby d_method_3_22) rfl (tlt s22).1 (by decide) (by decide) ?_
            show Steps p.tables e below (s₁.setTop (mkF m 33 #[.val (.int p1), .val (.int p2), .val (.int p3), .val (.int p4), .val (.int p5), .val (.int p6)] [])) _
            refine XS.iconst X0.here hx rfl (hb hby d_method_3_33) ?_
            show Steps p.tables e below (s₁.setTop (mkF m 34 #[.val (.int p1), .val (.int p2), .val (.int p3), .val (.int p4), .val (.int p5), .val (.int p6)] [(.int (1 : Int32))])) _
            exact k
          obtain ⟨fs, hr, hrun, hended, hW, hsame⟩ := X0.leave (v := some (.int (1 : Int32))) (fun h => by rw [Bd.returns] at h; cases h)
          refine ⟨_, _, retN X0 hx (t := .boolean) Bd.returns (by simp) (hb hby d_method_3_34) hr, hfin _ _ ⟨hrun, hended, _, _, rfl, ?_, ⟨_, rfl⟩, hW, hsame.mono (by decide) (by decide)⟩⟩
          show QSame Z p1 p2 p3 p4 p5 p6 h0 n0 _ s₁.heap _
          exact ⟨(1 : Int32), rfl, N, e0, (fun _ => rfl), (fun q => absurd ((own_same_iff hl1 hl4).mpr ⟨s2, (fun _ => s15), (fun z => absurd s22 z)⟩) q)⟩
        · refine own_go (B := s₁.setTop (mkF m 28 #[.val (.int p1), .val (.int p2), .val (.int p3), .val (.int p4), .val (.int p5), .val (.int p6)] [(.int p6), (.int p3)])) (fun t k => ?_) ?_
          · show Steps p.tables e below (s₁.setTop (mkF m 22 #[.val (.int p1), .val (.int p2), .val (.int p3), .val (.int p4), .val (.int p5), .val (.int p6)] [(.int (2 : Int32)), (.int p1)])) _
            refine XS.icmpNo X0.here hx rfl (hb hby d_method_3_22) rfl (flt s22).1 ?_
            show Steps p.tables e below (s₁.setTop (mkF m 25 #[.val (.int p1), .val (.int p2), .val (.int p3), .val (.int p4), .val (.int p5), .val (.int p6)] [])) _
            refine XS.iloadN X0.here hx rfl (hb hby d_method_3_25) rfl ?_
            show Steps p.tables e below (s₁.setTop (mkF m 26 #[.val (.int p1), .val (.int p2), .val (.int p3), .val (.int p4), .val (.int p5), .val (.int p6)] [(.int p3)])) _
            refine XS.iload X0.here hx rfl (hb hby d_method_3_26) rfl ?_
            show Steps p.tables e below (s₁.setTop (mkF m 28 #[.val (.int p1), .val (.int p2), .val (.int p3), .val (.int p4), .val (.int p5), .val (.int p6)] [(.int p6), (.int p3)])) _
            exact k
          by_cases s28 : p3 = p6
          · refine own_go (B := s₁.setTop (mkF m 34 #[.val (.int p1), .val (.int p2), .val (.int p3), .val (.int p4), .val (.int p5), .val (.int p6)] [(.int (1 : Int32))])) (fun t k => ?_) ?_
            · show Steps p.tables e below (s₁.setTop (mkF m 28 #[.val (.int p1), .val (.int p2), .val (.int p3), .val (.int p4), .val (.int p5), .val (.int p6)] [(.int p6), (.int p3)])) _
              refine XS.icmpYes X0.here hx rfl (pc0 := 28) (pc' := 33) rfl (hb hby d_method_3_28) rfl (teq s28).1 (by decide) (by decide) ?_
              show Steps p.tables e below (s₁.setTop (mkF m 33 #[.val (.int p1), .val (.int p2), .val (.int p3), .val (.int p4), .val (.int p5), .val (.int p6)] [])) _
              refine XS.iconst X0.here hx rfl (hb hby d_method_3_33) ?_
              show Steps p.tables e below (s₁.setTop (mkF m 34 #[.val (.int p1), .val (.int p2), .val (.int p3), .val (.int p4), .val (.int p5), .val (.int p6)] [(.int (1 : Int32))])) _
              exact k
            obtain ⟨fs, hr, hrun, hended, hW, hsame⟩ := X0.leave (v := some (.int (1 : Int32))) (fun h => by rw [Bd.returns] at h; cases h)
            refine ⟨_, _, retN X0 hx (t := .boolean) Bd.returns (by simp) (hb hby d_method_3_34) hr, hfin _ _ ⟨hrun, hended, _, _, rfl, ?_, ⟨_, rfl⟩, hW, hsame.mono (by decide) (by decide)⟩⟩
            show QSame Z p1 p2 p3 p4 p5 p6 h0 n0 _ s₁.heap _
            exact ⟨(1 : Int32), rfl, N, e0, (fun _ => rfl), (fun q => absurd ((own_same_iff hl1 hl4).mpr ⟨s2, (fun _ => s15), (fun _ => s28)⟩) q)⟩
          · refine own_go (B := s₁.setTop (mkF m 32 #[.val (.int p1), .val (.int p2), .val (.int p3), .val (.int p4), .val (.int p5), .val (.int p6)] [(.int (0 : Int32))])) (fun t k => ?_) ?_
            · show Steps p.tables e below (s₁.setTop (mkF m 28 #[.val (.int p1), .val (.int p2), .val (.int p3), .val (.int p4), .val (.int p5), .val (.int p6)] [(.int p6), (.int p3)])) _
              refine XS.icmpNo X0.here hx rfl (hb hby d_method_3_28) rfl (feq s28).1 ?_
              show Steps p.tables e below (s₁.setTop (mkF m 31 #[.val (.int p1), .val (.int p2), .val (.int p3), .val (.int p4), .val (.int p5), .val (.int p6)] [])) _
              refine XS.iconst X0.here hx rfl (hb hby d_method_3_31) ?_
              show Steps p.tables e below (s₁.setTop (mkF m 32 #[.val (.int p1), .val (.int p2), .val (.int p3), .val (.int p4), .val (.int p5), .val (.int p6)] [(.int (0 : Int32))])) _
              exact k
            obtain ⟨fs, hr, hrun, hended, hW, hsame⟩ := X0.leave (v := some (.int (0 : Int32))) (fun h => by rw [Bd.returns] at h; cases h)
            refine ⟨_, _, retN X0 hx (t := .boolean) Bd.returns (by simp) (hb hby d_method_3_32) hr, hfin _ _ ⟨hrun, hended, _, _, rfl, ?_, ⟨_, rfl⟩, hW, hsame.mono (by decide) (by decide)⟩⟩
            show QSame Z p1 p2 p3 p4 p5 p6 h0 n0 _ s₁.heap _
            exact ⟨(0 : Int32), rfl, N, e0, (fun q => absurd ((own_same_iff hl1 hl4).mp q) (fun z => s28 (z.2.2 s22))), (fun _ => rfl)⟩
      · refine own_go (B := s₁.setTop (mkF m 19 #[.val (.int p1), .val (.int p2), .val (.int p3), .val (.int p4), .val (.int p5), .val (.int p6)] [(.int (0 : Int32))])) (fun t k => ?_) ?_
        · show Steps p.tables e below (s₁.setTop (mkF m 15 #[.val (.int p1), .val (.int p2), .val (.int p3), .val (.int p4), .val (.int p5), .val (.int p6)] [(.int p5), (.int p2)])) _
          refine XS.icmpNo X0.here hx rfl (hb hby d_method_3_15) rfl (feq s15).1 ?_
          show Steps p.tables e below (s₁.setTop (mkF m 18 #[.val (.int p1), .val (.int p2), .val (.int p3), .val (.int p4), .val (.int p5), .val (.int p6)] [])) _
          refine XS.iconst X0.here hx rfl (hb hby d_method_3_18) ?_
          show Steps p.tables e below (s₁.setTop (mkF m 19 #[.val (.int p1), .val (.int p2), .val (.int p3), .val (.int p4), .val (.int p5), .val (.int p6)] [(.int (0 : Int32))])) _
          exact k
        obtain ⟨fs, hr, hrun, hended, hW, hsame⟩ := X0.leave (v := some (.int (0 : Int32))) (fun h => by rw [Bd.returns] at h; cases h)
        refine ⟨_, _, retN X0 hx (t := .boolean) Bd.returns (by simp) (hb hby d_method_3_19) hr, hfin _ _ ⟨hrun, hended, _, _, rfl, ?_, ⟨_, rfl⟩, hW, hsame.mono (by decide) (by decide)⟩⟩
        show QSame Z p1 p2 p3 p4 p5 p6 h0 n0 _ s₁.heap _
        exact ⟨(0 : Int32), rfl, N, e0, (fun q => absurd ((own_same_iff hl1 hl4).mp q) (fun z => s15 (z.2.1 s9))), (fun _ => rfl)⟩
  · refine own_go (B := s₁.setTop (mkF m 6 #[.val (.int p1), .val (.int p2), .val (.int p3), .val (.int p4), .val (.int p5), .val (.int p6)] [(.int (0 : Int32))])) (fun t k => ?_) ?_
    · show Steps p.tables e below (s₁.setTop (mkF m 2 #[.val (.int p1), .val (.int p2), .val (.int p3), .val (.int p4), .val (.int p5), .val (.int p6)] [(.int p4), (.int p1)])) _
      refine XS.icmpNo X0.here hx rfl (hb hby d_method_3_2) rfl (feq s2).1 ?_
      show Steps p.tables e below (s₁.setTop (mkF m 5 #[.val (.int p1), .val (.int p2), .val (.int p3), .val (.int p4), .val (.int p5), .val (.int p6)] [])) _
      refine XS.iconst X0.here hx rfl (hb hby d_method_3_5) ?_
      show Steps p.tables e below (s₁.setTop (mkF m 6 #[.val (.int p1), .val (.int p2), .val (.int p3), .val (.int p4), .val (.int p5), .val (.int p6)] [(.int (0 : Int32))])) _
      exact k
    obtain ⟨fs, hr, hrun, hended, hW, hsame⟩ := X0.leave (v := some (.int (0 : Int32))) (fun h => by rw [Bd.returns] at h; cases h)
    refine ⟨_, _, retN X0 hx (t := .boolean) Bd.returns (by simp) (hb hby d_method_3_6) hr, hfin _ _ ⟨hrun, hended, _, _, rfl, ?_, ⟨_, rfl⟩, hW, hsame.mono (by decide) (by decide)⟩⟩
    show QSame Z p1 p2 p3 p4 p5 p6 h0 n0 _ s₁.heap _
    exact ⟨(0 : Int32), rfl, N, e0, (fun q => absurd ((own_same_iff hl1 hl4).mp q) (fun z => s2 z.1)), (fun _ => rfl)⟩
def Q0 (Z : State) (p1 : Int32) (p2 : Int32) (p3 : Int32) (p4 : Int32) (zc : Int32) (h0 : Heap) (n0 : Nat) (v : Option Value) (h : Heap) (L : List Loc) : Prop := v = some (.int 1) ∧ Fr n0 L
theorem ef_0 (m : MethodId) (p1 : Int32) (p2 : Int32) (p3 : Int32) (p4 : Int32) : entryFrame m #[(.int p1), (.int p2), (.int p3), (.int p4)] maxLocals = mkF m 0 #[.val (.int p1), .val (.int p2), .val (.int p3), .val (.int p4), .unset, .unset, .unset, .unset, .unset, .unset, .unset, .unset, .unset, .unset, .unset, .unset, .unset, .unset, .unset, .unset, .unset, .unset, .unset] [] := by first | (simp [entryFrame, mkF, argsToLocals, Value.category, maxLocals]; done) | rfl | (rfl)
set_option maxRecDepth 65536 in
set_option maxHeartbeats 40000000 in
theorem rm0 (l : Launch) (Z : State) (a0 : Array Value) (hw : ∀ d ∈ tables_1, d.before a0 Z = true) (ws : List Jvm.Cond) (p1 : Int32) (p2 : Int32) (p3 : Int32) (p4 : Int32) (zc : Int32) (h0 : Heap) (n0 : Nat) (O : Old Z n0 h0) (S_C : Sta Z Z.heap "java/lang/String" "COMPACT_STRINGS" "Z" (.int zc)) (hcs : ¬ zc = (0 : Int32)) (hcH : Jvm.Lit.constHeld Z "java/lang/String" 7) (hcw : Jvm.Lit.compactW.before a0 Z = true) :
    MetFree l x (head1 (Jvm.Cond.code x code maxLocals ret :: ws) room_1) (fun as_ U => as_ = #[(.int p1), (.int p2), (.int p3), (.int p4)] ∧ Z.Warmed39 U.vm ∧ U.heap = h0 ∧ Em Z U.vm h0) (fun _ _ _ _ _ => True) (fun _ U oo_ U' => ∃ vv_ LL_, oo_ = .returned vv_ ∧ Q0 Z p1 p2 p3 p4 zc h0 n0 vv_ U'.heap LL_ ∧ ReturnedEndW U oo_ U' LL_ room_1.cells room_1.slots) := by
  refine MetFree.of_bodySF (plainFor_of_name pn_2) hisR ?_
  intro p e s m args below meth c s₁ Bd hml0 hP hK
  obtain ⟨rfl, hZ, hh, M⟩ := hP
  have hx := Bd.exec
  have hby := Bd.bytes
  have hml : c.maxLocals = 23 := hml0
  have hown : s.vm.findClass "org/bindery/DocumentElementIsPinLaw" = some m.cls := findClass_of_methodNamed Bd.named
  have hnm := (name_of_methodNamed Bd.named Bd.method).1
  have X0 : Stand p l e room_1 (s.setVm s.vm) m #[(.int p1), (.int p2), (.int p3), (.int p4)] below meth c s₁ [] 0 0 := Stand.of_body Bd
  have e0 : s₁.heap = h0 := by rw [← hh, Bd.state]; rfl
  have N := Fr.nil n0
  have hown : (s.setVm s.vm).vm.findClass "org/bindery/DocumentElementIsPinLaw" = some m.cls := hown
  have hZ : Z.Warmed39 (s.setVm s.vm).vm := hZ
  have hS : s.Since s.vm h0.size := (State.WarmedH.refl s).since _
  have hk : h0.size ≤ h0.size := Nat.le_refl _
  refine own_go (B := s₁.setTop (mkF m 0 #[.val (.int p1), .val (.int p2), .val (.int p3), .val (.int p4), .unset, .unset, .unset, .unset, .unset, .unset, .unset, .unset, .unset, .unset, .unset, .unset, .unset, .unset, .unset, .unset, .unset, .unset, .unset] [])) (fun t k => castTop (ef_0 m p1 p2 p3 p4) k) ?_
  have KM : Keep h0 h0 [] := Keep.refl h0 _
  refine own_abs (fun P hfin => ?_)
  refine own_go (B := s₁.setTop (mkF m 7 #[.val (.int p1), .val (.int p2), .val (.int p3), .val (.int p4), .val (.int (p1 &&& (255 : Int32))), .unset, .unset, .unset, .unset, .unset, .unset, .unset, .unset, .unset, .unset, .unset, .unset, .unset, .unset, .unset, .unset, .unset, .unset] [])) (fun t k => ?_) ?_
  · show Steps p.tables e below (s₁.setTop (mkF m 0 #[.val (.int p1), .val (.int p2), .val (.int p3), .val (.int p4), .unset, .unset, .unset, .unset, .unset, .unset, .unset, .unset, .unset, .unset, .unset, .unset, .unset, .unset, .unset, .unset, .unset, .unset, .unset] [])) _
    refine XS.iloadN X0.here hx rfl (hb hby at_0) rfl ?_
    show Steps p.tables e below (s₁.setTop (mkF m 1 #[.val (.int p1), .val (.int p2), .val (.int p3), .val (.int p4), .unset, .unset, .unset, .unset, .unset, .unset, .unset, .unset, .unset, .unset, .unset, .unset, .unset, .unset, .unset, .unset, .unset, .unset, .unset] [(.int p1)])) _
    refine XS.sipush X0.here hx rfl (hb hby at_1) ?_
    show Steps p.tables e below (s₁.setTop (mkF m 4 #[.val (.int p1), .val (.int p2), .val (.int p3), .val (.int p4), .unset, .unset, .unset, .unset, .unset, .unset, .unset, .unset, .unset, .unset, .unset, .unset, .unset, .unset, .unset, .unset, .unset, .unset, .unset] [(.int (255 : Int32)), (.int p1)])) _
    refine XS.iand X0.here hx rfl (hb hby at_4) rfl ?_
    show Steps p.tables e below (s₁.setTop (mkF m 5 #[.val (.int p1), .val (.int p2), .val (.int p3), .val (.int p4), .unset, .unset, .unset, .unset, .unset, .unset, .unset, .unset, .unset, .unset, .unset, .unset, .unset, .unset, .unset, .unset, .unset, .unset, .unset] [(.int (p1 &&& (255 : Int32)))])) _
    refine XS.istore X0.here hx rfl (hb hby at_5) rfl (l' := #[.val (.int p1), .val (.int p2), .val (.int p3), .val (.int p4), .val (.int (p1 &&& (255 : Int32))), .unset, .unset, .unset, .unset, .unset, .unset, .unset, .unset, .unset, .unset, .unset, .unset, .unset, .unset, .unset, .unset, .unset, .unset]) rfl ?_
    show Steps p.tables e below (s₁.setTop (mkF m 7 #[.val (.int p1), .val (.int p2), .val (.int p3), .val (.int p4), .val (.int (p1 &&& (255 : Int32))), .unset, .unset, .unset, .unset, .unset, .unset, .unset, .unset, .unset, .unset, .unset, .unset, .unset, .unset, .unset, .unset, .unset, .unset] [])) _
    exact k
  obtain ⟨u0, hu0⟩ : ∃ z : Int32, z = (p1 &&& (255 : Int32)) := ⟨_, rfl⟩
  rw [← hu0]
  have bu0 : ¬ u0 < 0 ∧ ¬ (255 : Int32) < u0 := by rw [hu0]; exact own_b255 _
  refine own_go (B := s₁.setTop (mkF m 17 #[.val (.int p1), .val (.int p2), .val (.int p3), .val (.int p4), .val (.int u0), .val (.int (((p1.toUInt32 >>> ((8 : Int32) &&& 31).toUInt32).toInt32) &&& (255 : Int32))), .unset, .unset, .unset, .unset, .unset, .unset, .unset, .unset, .unset, .unset, .unset, .unset, .unset, .unset, .unset, .unset, .unset] [])) (fun t k => ?_) ?_
  · show Steps p.tables e below (s₁.setTop (mkF m 7 #[.val (.int p1), .val (.int p2), .val (.int p3), .val (.int p4), .val (.int u0), .unset, .unset, .unset, .unset, .unset, .unset, .unset, .unset, .unset, .unset, .unset, .unset, .unset, .unset, .unset, .unset, .unset, .unset] [])) _
    refine XS.iloadN X0.here hx rfl (hb hby at_7) rfl ?_
    show Steps p.tables e below (s₁.setTop (mkF m 8 #[.val (.int p1), .val (.int p2), .val (.int p3), .val (.int p4), .val (.int u0), .unset, .unset, .unset, .unset, .unset, .unset, .unset, .unset, .unset, .unset, .unset, .unset, .unset, .unset, .unset, .unset, .unset, .unset] [(.int p1)])) _
    refine XS.bipush X0.here hx rfl (hb hby at_8) ?_
    show Steps p.tables e below (s₁.setTop (mkF m 10 #[.val (.int p1), .val (.int p2), .val (.int p3), .val (.int p4), .val (.int u0), .unset, .unset, .unset, .unset, .unset, .unset, .unset, .unset, .unset, .unset, .unset, .unset, .unset, .unset, .unset, .unset, .unset, .unset] [(.int (8 : Int32)), (.int p1)])) _
    refine XS.iushr X0.here hx rfl (hb hby at_10) rfl ?_
    show Steps p.tables e below (s₁.setTop (mkF m 11 #[.val (.int p1), .val (.int p2), .val (.int p3), .val (.int p4), .val (.int u0), .unset, .unset, .unset, .unset, .unset, .unset, .unset, .unset, .unset, .unset, .unset, .unset, .unset, .unset, .unset, .unset, .unset, .unset] [(.int ((p1.toUInt32 >>> ((8 : Int32) &&& 31).toUInt32).toInt32))])) _
    refine XS.sipush X0.here hx rfl (hb hby at_11) ?_
    show Steps p.tables e below (s₁.setTop (mkF m 14 #[.val (.int p1), .val (.int p2), .val (.int p3), .val (.int p4), .val (.int u0), .unset, .unset, .unset, .unset, .unset, .unset, .unset, .unset, .unset, .unset, .unset, .unset, .unset, .unset, .unset, .unset, .unset, .unset] [(.int (255 : Int32)), (.int ((p1.toUInt32 >>> ((8 : Int32) &&& 31).toUInt32).toInt32))])) _
    refine XS.iand X0.here hx rfl (hb hby at_14) rfl ?_
    show Steps p.tables e below (s₁.setTop (mkF m 15 #[.val (.int p1), .val (.int p2), .val (.int p3), .val (.int p4), .val (.int u0), .unset, .unset, .unset, .unset, .unset, .unset, .unset, .unset, .unset, .unset, .unset, .unset, .unset, .unset, .unset, .unset, .unset, .unset] [(.int (((p1.toUInt32 >>> ((8 : Int32) &&& 31).toUInt32).toInt32) &&& (255 : Int32)))])) _
    refine XS.istore X0.here hx rfl (hb hby at_15) rfl (l' := #[.val (.int p1), .val (.int p2), .val (.int p3), .val (.int p4), .val (.int u0), .val (.int (((p1.toUInt32 >>> ((8 : Int32) &&& 31).toUInt32).toInt32) &&& (255 : Int32))), .unset, .unset, .unset, .unset, .unset, .unset, .unset, .unset, .unset, .unset, .unset, .unset, .unset, .unset, .unset, .unset, .unset]) rfl ?_
    show Steps p.tables e below (s₁.setTop (mkF m 17 #[.val (.int p1), .val (.int p2), .val (.int p3), .val (.int p4), .val (.int u0), .val (.int (((p1.toUInt32 >>> ((8 : Int32) &&& 31).toUInt32).toInt32) &&& (255 : Int32))), .unset, .unset, .unset, .unset, .unset, .unset, .unset, .unset, .unset, .unset, .unset, .unset, .unset, .unset, .unset, .unset, .unset] [])) _
    exact k
  obtain ⟨u1, hu1⟩ : ∃ z : Int32, z = (((p1.toUInt32 >>> ((8 : Int32) &&& 31).toUInt32).toInt32) &&& (255 : Int32)) := ⟨_, rfl⟩
  rw [← hu1]
  have bu1 : ¬ u1 < 0 ∧ ¬ (255 : Int32) < u1 := by rw [hu1]; exact own_b255 _
  refine own_go (B := s₁.setTop (mkF m 27 #[.val (.int p1), .val (.int p2), .val (.int p3), .val (.int p4), .val (.int u0), .val (.int u1), .val (.int ((((p1.toUInt32 >>> ((16 : Int32) &&& 31).toUInt32).toInt32) &&& (3 : Int32)) % (3 : Int32))), .unset, .unset, .unset, .unset, .unset, .unset, .unset, .unset, .unset, .unset, .unset, .unset, .unset, .unset, .unset, .unset] [])) (fun t k => ?_) ?_
  · show Steps p.tables e below (s₁.setTop (mkF m 17 #[.val (.int p1), .val (.int p2), .val (.int p3), .val (.int p4), .val (.int u0), .val (.int u1), .unset, .unset, .unset, .unset, .unset, .unset, .unset, .unset, .unset, .unset, .unset, .unset, .unset, .unset, .unset, .unset, .unset] [])) _
    refine XS.iloadN X0.here hx rfl (hb hby at_17) rfl ?_
    show Steps p.tables e below (s₁.setTop (mkF m 18 #[.val (.int p1), .val (.int p2), .val (.int p3), .val (.int p4), .val (.int u0), .val (.int u1), .unset, .unset, .unset, .unset, .unset, .unset, .unset, .unset, .unset, .unset, .unset, .unset, .unset, .unset, .unset, .unset, .unset] [(.int p1)])) _
    refine XS.bipush X0.here hx rfl (hb hby at_18) ?_
    show Steps p.tables e below (s₁.setTop (mkF m 20 #[.val (.int p1), .val (.int p2), .val (.int p3), .val (.int p4), .val (.int u0), .val (.int u1), .unset, .unset, .unset, .unset, .unset, .unset, .unset, .unset, .unset, .unset, .unset, .unset, .unset, .unset, .unset, .unset, .unset] [(.int (16 : Int32)), (.int p1)])) _
    refine XS.iushr X0.here hx rfl (hb hby at_20) rfl ?_
    show Steps p.tables e below (s₁.setTop (mkF m 21 #[.val (.int p1), .val (.int p2), .val (.int p3), .val (.int p4), .val (.int u0), .val (.int u1), .unset, .unset, .unset, .unset, .unset, .unset, .unset, .unset, .unset, .unset, .unset, .unset, .unset, .unset, .unset, .unset, .unset] [(.int ((p1.toUInt32 >>> ((16 : Int32) &&& 31).toUInt32).toInt32))])) _
    refine XS.iconst X0.here hx rfl (hb hby at_21) ?_
    show Steps p.tables e below (s₁.setTop (mkF m 22 #[.val (.int p1), .val (.int p2), .val (.int p3), .val (.int p4), .val (.int u0), .val (.int u1), .unset, .unset, .unset, .unset, .unset, .unset, .unset, .unset, .unset, .unset, .unset, .unset, .unset, .unset, .unset, .unset, .unset] [(.int (3 : Int32)), (.int ((p1.toUInt32 >>> ((16 : Int32) &&& 31).toUInt32).toInt32))])) _
    refine XS.iand X0.here hx rfl (hb hby at_22) rfl ?_
    show Steps p.tables e below (s₁.setTop (mkF m 23 #[.val (.int p1), .val (.int p2), .val (.int p3), .val (.int p4), .val (.int u0), .val (.int u1), .unset, .unset, .unset, .unset, .unset, .unset, .unset, .unset, .unset, .unset, .unset, .unset, .unset, .unset, .unset, .unset, .unset] [(.int (((p1.toUInt32 >>> ((16 : Int32) &&& 31).toUInt32).toInt32) &&& (3 : Int32)))])) _
    refine XS.iconst X0.here hx rfl (hb hby at_23) ?_
    show Steps p.tables e below (s₁.setTop (mkF m 24 #[.val (.int p1), .val (.int p2), .val (.int p3), .val (.int p4), .val (.int u0), .val (.int u1), .unset, .unset, .unset, .unset, .unset, .unset, .unset, .unset, .unset, .unset, .unset, .unset, .unset, .unset, .unset, .unset, .unset] [(.int (3 : Int32)), (.int (((p1.toUInt32 >>> ((16 : Int32) &&& 31).toUInt32).toInt32) &&& (3 : Int32)))])) _
    refine Jvm.RoadKit.iremM (g := (mkF m 24 #[.val (.int p1), .val (.int p2), .val (.int p3), .val (.int p4), .val (.int u0), .val (.int u1), .unset, .unset, .unset, .unset, .unset, .unset, .unset, .unset, .unset, .unset, .unset, .unset, .unset, .unset, .unset, .unset, .unset] [(.int (3 : Int32)), (.int (((p1.toUInt32 >>> ((16 : Int32) &&& 31).toUInt32).toInt32) &&& (3 : Int32)))])) X0 hx rfl (hb hby at_24) rfl (by decide) ?_
    show Steps p.tables e below (s₁.setTop (mkF m 25 #[.val (.int p1), .val (.int p2), .val (.int p3), .val (.int p4), .val (.int u0), .val (.int u1), .unset, .unset, .unset, .unset, .unset, .unset, .unset, .unset, .unset, .unset, .unset, .unset, .unset, .unset, .unset, .unset, .unset] [(.int ((((p1.toUInt32 >>> ((16 : Int32) &&& 31).toUInt32).toInt32) &&& (3 : Int32)) % (3 : Int32)))])) _
    refine XS.istore X0.here hx rfl (hb hby at_25) rfl (l' := #[.val (.int p1), .val (.int p2), .val (.int p3), .val (.int p4), .val (.int u0), .val (.int u1), .val (.int ((((p1.toUInt32 >>> ((16 : Int32) &&& 31).toUInt32).toInt32) &&& (3 : Int32)) % (3 : Int32))), .unset, .unset, .unset, .unset, .unset, .unset, .unset, .unset, .unset, .unset, .unset, .unset, .unset, .unset, .unset, .unset]) rfl ?_
    show Steps p.tables e below (s₁.setTop (mkF m 27 #[.val (.int p1), .val (.int p2), .val (.int p3), .val (.int p4), .val (.int u0), .val (.int u1), .val (.int ((((p1.toUInt32 >>> ((16 : Int32) &&& 31).toUInt32).toInt32) &&& (3 : Int32)) % (3 : Int32))), .unset, .unset, .unset, .unset, .unset, .unset, .unset, .unset, .unset, .unset, .unset, .unset, .unset, .unset, .unset, .unset] [])) _
    exact k
  obtain ⟨nl, hnl⟩ : ∃ z : Int32, z = ((((p1.toUInt32 >>> ((16 : Int32) &&& 31).toUInt32).toInt32) &&& (3 : Int32)) % (3 : Int32)) := ⟨_, rfl⟩
  rw [← hnl]
  have bnl : nl = (0 : Int32) ∨ nl = (1 : Int32) ∨ nl = (2 : Int32) := by rw [hnl]; exact own_len3 _
  refine own_go (B := s₁.setTop (mkF m 33 #[.val (.int p1), .val (.int p2), .val (.int p3), .val (.int p4), .val (.int u0), .val (.int u1), .val (.int nl), .unset, .unset, .unset, .unset, .unset, .unset, .unset, .unset, .unset, .unset, .unset, .unset, .unset, .unset, .unset, .unset] [(.int (((p1.toUInt32 >>> ((18 : Int32) &&& 31).toUInt32).toInt32) &&& (1 : Int32)))])) (fun t k => ?_) ?_
  · show Steps p.tables e below (s₁.setTop (mkF m 27 #[.val (.int p1), .val (.int p2), .val (.int p3), .val (.int p4), .val (.int u0), .val (.int u1), .val (.int nl), .unset, .unset, .unset, .unset, .unset, .unset, .unset, .unset, .unset, .unset, .unset, .unset, .unset, .unset, .unset, .unset] [])) _
    refine XS.iloadN X0.here hx rfl (hb hby at_27) rfl ?_
    show Steps p.tables e below (s₁.setTop (mkF m 28 #[.val (.int p1), .val (.int p2), .val (.int p3), .val (.int p4), .val (.int u0), .val (.int u1), .val (.int nl), .unset, .unset, .unset, .unset, .unset, .unset, .unset, .unset, .unset, .unset, .unset, .unset, .unset, .unset, .unset, .unset] [(.int p1)])) _
    refine XS.bipush X0.here hx rfl (hb hby at_28) ?_
    show Steps p.tables e below (s₁.setTop (mkF m 30 #[.val (.int p1), .val (.int p2), .val (.int p3), .val (.int p4), .val (.int u0), .val (.int u1), .val (.int nl), .unset, .unset, .unset, .unset, .unset, .unset, .unset, .unset, .unset, .unset, .unset, .unset, .unset, .unset, .unset, .unset] [(.int (18 : Int32)), (.int p1)])) _
    refine XS.iushr X0.here hx rfl (hb hby at_30) rfl ?_
    show Steps p.tables e below (s₁.setTop (mkF m 31 #[.val (.int p1), .val (.int p2), .val (.int p3), .val (.int p4), .val (.int u0), .val (.int u1), .val (.int nl), .unset, .unset, .unset, .unset, .unset, .unset, .unset, .unset, .unset, .unset, .unset, .unset, .unset, .unset, .unset, .unset] [(.int ((p1.toUInt32 >>> ((18 : Int32) &&& 31).toUInt32).toInt32))])) _
    refine XS.iconst X0.here hx rfl (hb hby at_31) ?_
    show Steps p.tables e below (s₁.setTop (mkF m 32 #[.val (.int p1), .val (.int p2), .val (.int p3), .val (.int p4), .val (.int u0), .val (.int u1), .val (.int nl), .unset, .unset, .unset, .unset, .unset, .unset, .unset, .unset, .unset, .unset, .unset, .unset, .unset, .unset, .unset, .unset] [(.int (1 : Int32)), (.int ((p1.toUInt32 >>> ((18 : Int32) &&& 31).toUInt32).toInt32))])) _
    refine XS.iand X0.here hx rfl (hb hby at_32) rfl ?_
    show Steps p.tables e below (s₁.setTop (mkF m 33 #[.val (.int p1), .val (.int p2), .val (.int p3), .val (.int p4), .val (.int u0), .val (.int u1), .val (.int nl), .unset, .unset, .unset, .unset, .unset, .unset, .unset, .unset, .unset, .unset, .unset, .unset, .unset, .unset, .unset, .unset] [(.int (((p1.toUInt32 >>> ((18 : Int32) &&& 31).toUInt32).toInt32) &&& (1 : Int32)))])) _
    exact k
  obtain ⟨el, hel⟩ : ∃ z : Int32, z = (if (((p1.toUInt32 >>> ((18 : Int32) &&& 31).toUInt32).toInt32) &&& (1 : Int32)) = (0 : Int32) then nl else ((((p1.toUInt32 >>> ((19 : Int32) &&& 31).toUInt32).toInt32) &&& (3 : Int32)) % (3 : Int32))) := ⟨_, rfl⟩
  refine own_go (B := s₁.setTop (mkF m 49 #[.val (.int p1), .val (.int p2), .val (.int p3), .val (.int p4), .val (.int u0), .val (.int u1), .val (.int nl), .unset, .unset, .unset, .unset, .unset, .unset, .unset, .unset, .unset, .unset, .unset, .unset, .unset, .unset, .unset, .unset] [(.int el)])) (fun t k => ?_) ?_
  · skip
    show Steps p.tables e below (s₁.setTop (mkF m 33 #[.val (.int p1), .val (.int p2), .val (.int p3), .val (.int p4), .val (.int u0), .val (.int u1), .val (.int nl), .unset, .unset, .unset, .unset, .unset, .unset, .unset, .unset, .unset, .unset, .unset, .unset, .unset, .unset, .unset, .unset] [(.int (((p1.toUInt32 >>> ((18 : Int32) &&& 31).toUInt32).toInt32) &&& (1 : Int32)))])) _
    by_cases hm33 : (((p1.toUInt32 >>> ((18 : Int32) &&& 31).toUInt32).toInt32) &&& (1 : Int32)) = (0 : Int32)
    · skip
      simp only [if_pos hm33] at hel
      rw [hel] at k
      show Steps p.tables e below (s₁.setTop (mkF m 33 #[.val (.int p1), .val (.int p2), .val (.int p3), .val (.int p4), .val (.int u0), .val (.int u1), .val (.int nl), .unset, .unset, .unset, .unset, .unset, .unset, .unset, .unset, .unset, .unset, .unset, .unset, .unset, .unset, .unset, .unset] [(.int (((p1.toUInt32 >>> ((18 : Int32) &&& 31).toUInt32).toInt32) &&& (1 : Int32)))])) _
      refine XS.ifNo X0.here hx rfl (hb hby at_33) rfl ((if0 _ _).trans (teq hm33).2) ?_
      show Steps p.tables e below (s₁.setTop (mkF m 36 #[.val (.int p1), .val (.int p2), .val (.int p3), .val (.int p4), .val (.int u0), .val (.int u1), .val (.int nl), .unset, .unset, .unset, .unset, .unset, .unset, .unset, .unset, .unset, .unset, .unset, .unset, .unset, .unset, .unset, .unset] [])) _
      refine XS.iload X0.here hx rfl (hb hby at_36) rfl ?_
      show Steps p.tables e below (s₁.setTop (mkF m 38 #[.val (.int p1), .val (.int p2), .val (.int p3), .val (.int p4), .val (.int u0), .val (.int u1), .val (.int nl), .unset, .unset, .unset, .unset, .unset, .unset, .unset, .unset, .unset, .unset, .unset, .unset, .unset, .unset, .unset, .unset] [(.int nl)])) _
      refine XS.goto X0.here hx rfl (pc0 := 38) (pc' := 49) rfl (hb hby at_38) (by decide) (by decide) ?_
      show Steps p.tables e below (s₁.setTop (mkF m 49 #[.val (.int p1), .val (.int p2), .val (.int p3), .val (.int p4), .val (.int u0), .val (.int u1), .val (.int nl), .unset, .unset, .unset, .unset, .unset, .unset, .unset, .unset, .unset, .unset, .unset, .unset, .unset, .unset, .unset, .unset] [(.int nl)])) _
      exact k
    · skip
      simp only [if_neg hm33] at hel
      rw [hel] at k
      show Steps p.tables e below (s₁.setTop (mkF m 33 #[.val (.int p1), .val (.int p2), .val (.int p3), .val (.int p4), .val (.int u0), .val (.int u1), .val (.int nl), .unset, .unset, .unset, .unset, .unset, .unset, .unset, .unset, .unset, .unset, .unset, .unset, .unset, .unset, .unset, .unset] [(.int (((p1.toUInt32 >>> ((18 : Int32) &&& 31).toUInt32).toInt32) &&& (1 : Int32)))])) _
      refine XS.ifYes X0.here hx rfl (pc0 := 33) (pc' := 41) rfl (hb hby at_33) rfl ((if0 _ _).trans (feq hm33).2) (by decide) (by decide) ?_
      show Steps p.tables e below (s₁.setTop (mkF m 41 #[.val (.int p1), .val (.int p2), .val (.int p3), .val (.int p4), .val (.int u0), .val (.int u1), .val (.int nl), .unset, .unset, .unset, .unset, .unset, .unset, .unset, .unset, .unset, .unset, .unset, .unset, .unset, .unset, .unset, .unset] [])) _
      refine XS.iloadN X0.here hx rfl (hb hby at_41) rfl ?_
      show Steps p.tables e below (s₁.setTop (mkF m 42 #[.val (.int p1), .val (.int p2), .val (.int p3), .val (.int p4), .val (.int u0), .val (.int u1), .val (.int nl), .unset, .unset, .unset, .unset, .unset, .unset, .unset, .unset, .unset, .unset, .unset, .unset, .unset, .unset, .unset, .unset] [(.int p1)])) _
      refine XS.bipush X0.here hx rfl (hb hby at_42) ?_
      show Steps p.tables e below (s₁.setTop (mkF m 44 #[.val (.int p1), .val (.int p2), .val (.int p3), .val (.int p4), .val (.int u0), .val (.int u1), .val (.int nl), .unset, .unset, .unset, .unset, .unset, .unset, .unset, .unset, .unset, .unset, .unset, .unset, .unset, .unset, .unset, .unset] [(.int (19 : Int32)), (.int p1)])) _
      refine XS.iushr X0.here hx rfl (hb hby at_44) rfl ?_
      show Steps p.tables e below (s₁.setTop (mkF m 45 #[.val (.int p1), .val (.int p2), .val (.int p3), .val (.int p4), .val (.int u0), .val (.int u1), .val (.int nl), .unset, .unset, .unset, .unset, .unset, .unset, .unset, .unset, .unset, .unset, .unset, .unset, .unset, .unset, .unset, .unset] [(.int ((p1.toUInt32 >>> ((19 : Int32) &&& 31).toUInt32).toInt32))])) _
      refine XS.iconst X0.here hx rfl (hb hby at_45) ?_
      show Steps p.tables e below (s₁.setTop (mkF m 46 #[.val (.int p1), .val (.int p2), .val (.int p3), .val (.int p4), .val (.int u0), .val (.int u1), .val (.int nl), .unset, .unset, .unset, .unset, .unset, .unset, .unset, .unset, .unset, .unset, .unset, .unset, .unset, .unset, .unset, .unset] [(.int (3 : Int32)), (.int ((p1.toUInt32 >>> ((19 : Int32) &&& 31).toUInt32).toInt32))])) _
      refine XS.iand X0.here hx rfl (hb hby at_46) rfl ?_
      show Steps p.tables e below (s₁.setTop (mkF m 47 #[.val (.int p1), .val (.int p2), .val (.int p3), .val (.int p4), .val (.int u0), .val (.int u1), .val (.int nl), .unset, .unset, .unset, .unset, .unset, .unset, .unset, .unset, .unset, .unset, .unset, .unset, .unset, .unset, .unset, .unset] [(.int (((p1.toUInt32 >>> ((19 : Int32) &&& 31).toUInt32).toInt32) &&& (3 : Int32)))])) _
      refine XS.iconst X0.here hx rfl (hb hby at_47) ?_
      show Steps p.tables e below (s₁.setTop (mkF m 48 #[.val (.int p1), .val (.int p2), .val (.int p3), .val (.int p4), .val (.int u0), .val (.int u1), .val (.int nl), .unset, .unset, .unset, .unset, .unset, .unset, .unset, .unset, .unset, .unset, .unset, .unset, .unset, .unset, .unset, .unset] [(.int (3 : Int32)), (.int (((p1.toUInt32 >>> ((19 : Int32) &&& 31).toUInt32).toInt32) &&& (3 : Int32)))])) _
      refine Jvm.RoadKit.iremM (g := (mkF m 48 #[.val (.int p1), .val (.int p2), .val (.int p3), .val (.int p4), .val (.int u0), .val (.int u1), .val (.int nl), .unset, .unset, .unset, .unset, .unset, .unset, .unset, .unset, .unset, .unset, .unset, .unset, .unset, .unset, .unset, .unset] [(.int (3 : Int32)), (.int (((p1.toUInt32 >>> ((19 : Int32) &&& 31).toUInt32).toInt32) &&& (3 : Int32)))])) X0 hx rfl (hb hby at_48) rfl (by decide) ?_
      show Steps p.tables e below (s₁.setTop (mkF m 49 #[.val (.int p1), .val (.int p2), .val (.int p3), .val (.int p4), .val (.int u0), .val (.int u1), .val (.int nl), .unset, .unset, .unset, .unset, .unset, .unset, .unset, .unset, .unset, .unset, .unset, .unset, .unset, .unset, .unset, .unset] [(.int ((((p1.toUInt32 >>> ((19 : Int32) &&& 31).toUInt32).toInt32) &&& (3 : Int32)) % (3 : Int32)))])) _
      exact k
  have bel : el = (0 : Int32) ∨ el = (1 : Int32) ∨ el = (2 : Int32) := by rw [hel]; split; assumption; exact own_len3 _
  refine own_go (B := s₁.setTop (mkF m 59 #[.val (.int p1), .val (.int p2), .val (.int p3), .val (.int p4), .val (.int u0), .val (.int u1), .val (.int nl), .val (.int el), .unset, .unset, .unset, .unset, .unset, .unset, .unset, .unset, .unset, .unset, .unset, .unset, .unset, .unset, .unset] [(.int (((p1.toUInt32 >>> ((21 : Int32) &&& 31).toUInt32).toInt32) &&& (1 : Int32))), (.int u0)])) (fun t k => ?_) ?_
  · show Steps p.tables e below (s₁.setTop (mkF m 49 #[.val (.int p1), .val (.int p2), .val (.int p3), .val (.int p4), .val (.int u0), .val (.int u1), .val (.int nl), .unset, .unset, .unset, .unset, .unset, .unset, .unset, .unset, .unset, .unset, .unset, .unset, .unset, .unset, .unset, .unset] [(.int el)])) _
    refine XS.istore X0.here hx rfl (hb hby at_49) rfl (l' := #[.val (.int p1), .val (.int p2), .val (.int p3), .val (.int p4), .val (.int u0), .val (.int u1), .val (.int nl), .val (.int el), .unset, .unset, .unset, .unset, .unset, .unset, .unset, .unset, .unset, .unset, .unset, .unset, .unset, .unset, .unset]) rfl ?_
    show Steps p.tables e below (s₁.setTop (mkF m 51 #[.val (.int p1), .val (.int p2), .val (.int p3), .val (.int p4), .val (.int u0), .val (.int u1), .val (.int nl), .val (.int el), .unset, .unset, .unset, .unset, .unset, .unset, .unset, .unset, .unset, .unset, .unset, .unset, .unset, .unset, .unset] [])) _
    refine XS.iload X0.here hx rfl (hb hby at_51) rfl ?_
    show Steps p.tables e below (s₁.setTop (mkF m 53 #[.val (.int p1), .val (.int p2), .val (.int p3), .val (.int p4), .val (.int u0), .val (.int u1), .val (.int nl), .val (.int el), .unset, .unset, .unset, .unset, .unset, .unset, .unset, .unset, .unset, .unset, .unset, .unset, .unset, .unset, .unset] [(.int u0)])) _
    refine XS.iloadN X0.here hx rfl (hb hby at_53) rfl ?_
    show Steps p.tables e below (s₁.setTop (mkF m 54 #[.val (.int p1), .val (.int p2), .val (.int p3), .val (.int p4), .val (.int u0), .val (.int u1), .val (.int nl), .val (.int el), .unset, .unset, .unset, .unset, .unset, .unset, .unset, .unset, .unset, .unset, .unset, .unset, .unset, .unset, .unset] [(.int p1), (.int u0)])) _
    refine XS.bipush X0.here hx rfl (hb hby at_54) ?_
    show Steps p.tables e below (s₁.setTop (mkF m 56 #[.val (.int p1), .val (.int p2), .val (.int p3), .val (.int p4), .val (.int u0), .val (.int u1), .val (.int nl), .val (.int el), .unset, .unset, .unset, .unset, .unset, .unset, .unset, .unset, .unset, .unset, .unset, .unset, .unset, .unset, .unset] [(.int (21 : Int32)), (.int p1), (.int u0)])) _
    refine XS.iushr X0.here hx rfl (hb hby at_56) rfl ?_
    show Steps p.tables e below (s₁.setTop (mkF m 57 #[.val (.int p1), .val (.int p2), .val (.int p3), .val (.int p4), .val (.int u0), .val (.int u1), .val (.int nl), .val (.int el), .unset, .unset, .unset, .unset, .unset, .unset, .unset, .unset, .unset, .unset, .unset, .unset, .unset, .unset, .unset] [(.int ((p1.toUInt32 >>> ((21 : Int32) &&& 31).toUInt32).toInt32)), (.int u0)])) _
    refine XS.iconst X0.here hx rfl (hb hby at_57) ?_
    show Steps p.tables e below (s₁.setTop (mkF m 58 #[.val (.int p1), .val (.int p2), .val (.int p3), .val (.int p4), .val (.int u0), .val (.int u1), .val (.int nl), .val (.int el), .unset, .unset, .unset, .unset, .unset, .unset, .unset, .unset, .unset, .unset, .unset, .unset, .unset, .unset, .unset] [(.int (1 : Int32)), (.int ((p1.toUInt32 >>> ((21 : Int32) &&& 31).toUInt32).toInt32)), (.int u0)])) _
    refine XS.iand X0.here hx rfl (hb hby at_58) rfl ?_
    show Steps p.tables e below (s₁.setTop (mkF m 59 #[.val (.int p1), .val (.int p2), .val (.int p3), .val (.int p4), .val (.int u0), .val (.int u1), .val (.int nl), .val (.int el), .unset, .unset, .unset, .unset, .unset, .unset, .unset, .unset, .unset, .unset, .unset, .unset, .unset, .unset, .unset] [(.int (((p1.toUInt32 >>> ((21 : Int32) &&& 31).toUInt32).toInt32) &&& (1 : Int32))), (.int u0)])) _
    exact k
  obtain ⟨m0, hm0⟩ : ∃ z : Int32, z = (if (((p1.toUInt32 >>> ((21 : Int32) &&& 31).toUInt32).toInt32) &&& (1 : Int32)) = (0 : Int32) then (0 : Int32) else (p2 &&& (255 : Int32))) := ⟨_, rfl⟩
  refine own_go (B := s₁.setTop (mkF m 71 #[.val (.int p1), .val (.int p2), .val (.int p3), .val (.int p4), .val (.int u0), .val (.int u1), .val (.int nl), .val (.int el), .unset, .unset, .unset, .unset, .unset, .unset, .unset, .unset, .unset, .unset, .unset, .unset, .unset, .unset, .unset] [(.int m0), (.int u0)])) (fun t k => ?_) ?_
  · skip
    show Steps p.tables e below (s₁.setTop (mkF m 59 #[.val (.int p1), .val (.int p2), .val (.int p3), .val (.int p4), .val (.int u0), .val (.int u1), .val (.int nl), .val (.int el), .unset, .unset, .unset, .unset, .unset, .unset, .unset, .unset, .unset, .unset, .unset, .unset, .unset, .unset, .unset] [(.int (((p1.toUInt32 >>> ((21 : Int32) &&& 31).toUInt32).toInt32) &&& (1 : Int32))), (.int u0)])) _
    by_cases hm59 : (((p1.toUInt32 >>> ((21 : Int32) &&& 31).toUInt32).toInt32) &&& (1 : Int32)) = (0 : Int32)
    · skip
      simp only [if_pos hm59] at hm0
      rw [hm0] at k
      show Steps p.tables e below (s₁.setTop (mkF m 59 #[.val (.int p1), .val (.int p2), .val (.int p3), .val (.int p4), .val (.int u0), .val (.int u1), .val (.int nl), .val (.int el), .unset, .unset, .unset, .unset, .unset, .unset, .unset, .unset, .unset, .unset, .unset, .unset, .unset, .unset, .unset] [(.int (((p1.toUInt32 >>> ((21 : Int32) &&& 31).toUInt32).toInt32) &&& (1 : Int32))), (.int u0)])) _
      refine XS.ifYes X0.here hx rfl (pc0 := 59) (pc' := 70) rfl (hb hby at_59) rfl ((if0 _ _).trans (teq hm59).1) (by decide) (by decide) ?_
      show Steps p.tables e below (s₁.setTop (mkF m 70 #[.val (.int p1), .val (.int p2), .val (.int p3), .val (.int p4), .val (.int u0), .val (.int u1), .val (.int nl), .val (.int el), .unset, .unset, .unset, .unset, .unset, .unset, .unset, .unset, .unset, .unset, .unset, .unset, .unset, .unset, .unset] [(.int u0)])) _
      refine XS.iconst X0.here hx rfl (hb hby at_70) ?_
      show Steps p.tables e below (s₁.setTop (mkF m 71 #[.val (.int p1), .val (.int p2), .val (.int p3), .val (.int p4), .val (.int u0), .val (.int u1), .val (.int nl), .val (.int el), .unset, .unset, .unset, .unset, .unset, .unset, .unset, .unset, .unset, .unset, .unset, .unset, .unset, .unset, .unset] [(.int (0 : Int32)), (.int u0)])) _
      exact k
    · skip
      simp only [if_neg hm59] at hm0
      rw [hm0] at k
      show Steps p.tables e below (s₁.setTop (mkF m 59 #[.val (.int p1), .val (.int p2), .val (.int p3), .val (.int p4), .val (.int u0), .val (.int u1), .val (.int nl), .val (.int el), .unset, .unset, .unset, .unset, .unset, .unset, .unset, .unset, .unset, .unset, .unset, .unset, .unset, .unset, .unset] [(.int (((p1.toUInt32 >>> ((21 : Int32) &&& 31).toUInt32).toInt32) &&& (1 : Int32))), (.int u0)])) _
      refine XS.ifNo X0.here hx rfl (hb hby at_59) rfl ((if0 _ _).trans (feq hm59).1) ?_
      show Steps p.tables e below (s₁.setTop (mkF m 62 #[.val (.int p1), .val (.int p2), .val (.int p3), .val (.int p4), .val (.int u0), .val (.int u1), .val (.int nl), .val (.int el), .unset, .unset, .unset, .unset, .unset, .unset, .unset, .unset, .unset, .unset, .unset, .unset, .unset, .unset, .unset] [(.int u0)])) _
      refine XS.iloadN X0.here hx rfl (hb hby at_62) rfl ?_
      show Steps p.tables e below (s₁.setTop (mkF m 63 #[.val (.int p1), .val (.int p2), .val (.int p3), .val (.int p4), .val (.int u0), .val (.int u1), .val (.int nl), .val (.int el), .unset, .unset, .unset, .unset, .unset, .unset, .unset, .unset, .unset, .unset, .unset, .unset, .unset, .unset, .unset] [(.int p2), (.int u0)])) _
      refine XS.sipush X0.here hx rfl (hb hby at_63) ?_
      show Steps p.tables e below (s₁.setTop (mkF m 66 #[.val (.int p1), .val (.int p2), .val (.int p3), .val (.int p4), .val (.int u0), .val (.int u1), .val (.int nl), .val (.int el), .unset, .unset, .unset, .unset, .unset, .unset, .unset, .unset, .unset, .unset, .unset, .unset, .unset, .unset, .unset] [(.int (255 : Int32)), (.int p2), (.int u0)])) _
      refine XS.iand X0.here hx rfl (hb hby at_66) rfl ?_
      show Steps p.tables e below (s₁.setTop (mkF m 67 #[.val (.int p1), .val (.int p2), .val (.int p3), .val (.int p4), .val (.int u0), .val (.int u1), .val (.int nl), .val (.int el), .unset, .unset, .unset, .unset, .unset, .unset, .unset, .unset, .unset, .unset, .unset, .unset, .unset, .unset, .unset] [(.int (p2 &&& (255 : Int32))), (.int u0)])) _
      refine XS.goto X0.here hx rfl (pc0 := 67) (pc' := 71) rfl (hb hby at_67) (by decide) (by decide) ?_
      show Steps p.tables e below (s₁.setTop (mkF m 71 #[.val (.int p1), .val (.int p2), .val (.int p3), .val (.int p4), .val (.int u0), .val (.int u1), .val (.int nl), .val (.int el), .unset, .unset, .unset, .unset, .unset, .unset, .unset, .unset, .unset, .unset, .unset, .unset, .unset, .unset, .unset] [(.int (p2 &&& (255 : Int32))), (.int u0)])) _
      exact k
  refine own_go (B := s₁.setTop (mkF m 74 #[.val (.int p1), .val (.int p2), .val (.int p3), .val (.int p4), .val (.int u0), .val (.int u1), .val (.int nl), .val (.int el), .val (.int (u0 ^^^ m0)), .unset, .unset, .unset, .unset, .unset, .unset, .unset, .unset, .unset, .unset, .unset, .unset, .unset, .unset] [])) (fun t k => ?_) ?_
  · show Steps p.tables e below (s₁.setTop (mkF m 71 #[.val (.int p1), .val (.int p2), .val (.int p3), .val (.int p4), .val (.int u0), .val (.int u1), .val (.int nl), .val (.int el), .unset, .unset, .unset, .unset, .unset, .unset, .unset, .unset, .unset, .unset, .unset, .unset, .unset, .unset, .unset] [(.int m0), (.int u0)])) _
    refine XS.ixor X0.here hx rfl (hb hby at_71) rfl ?_
    show Steps p.tables e below (s₁.setTop (mkF m 72 #[.val (.int p1), .val (.int p2), .val (.int p3), .val (.int p4), .val (.int u0), .val (.int u1), .val (.int nl), .val (.int el), .unset, .unset, .unset, .unset, .unset, .unset, .unset, .unset, .unset, .unset, .unset, .unset, .unset, .unset, .unset] [(.int (u0 ^^^ m0))])) _
    refine XS.istore X0.here hx rfl (hb hby at_72) rfl (l' := #[.val (.int p1), .val (.int p2), .val (.int p3), .val (.int p4), .val (.int u0), .val (.int u1), .val (.int nl), .val (.int el), .val (.int (u0 ^^^ m0)), .unset, .unset, .unset, .unset, .unset, .unset, .unset, .unset, .unset, .unset, .unset, .unset, .unset, .unset]) rfl ?_
    show Steps p.tables e below (s₁.setTop (mkF m 74 #[.val (.int p1), .val (.int p2), .val (.int p3), .val (.int p4), .val (.int u0), .val (.int u1), .val (.int nl), .val (.int el), .val (.int (u0 ^^^ m0)), .unset, .unset, .unset, .unset, .unset, .unset, .unset, .unset, .unset, .unset, .unset, .unset, .unset, .unset] [])) _
    exact k
  obtain ⟨x0, hx0⟩ : ∃ z : Int32, z = (u0 ^^^ m0) := ⟨_, rfl⟩
  rw [← hx0]
  have bx0 : ¬ x0 < 0 ∧ ¬ (255 : Int32) < x0 := by rw [hx0, hu0, hm0]; split; exact own_xor0 _; exact own_xor255 _ _
  refine own_go (B := s₁.setTop (mkF m 82 #[.val (.int p1), .val (.int p2), .val (.int p3), .val (.int p4), .val (.int u0), .val (.int u1), .val (.int nl), .val (.int el), .val (.int x0), .unset, .unset, .unset, .unset, .unset, .unset, .unset, .unset, .unset, .unset, .unset, .unset, .unset, .unset] [(.int (((p1.toUInt32 >>> ((22 : Int32) &&& 31).toUInt32).toInt32) &&& (1 : Int32))), (.int u1)])) (fun t k => ?_) ?_
  · show Steps p.tables e below (s₁.setTop (mkF m 74 #[.val (.int p1), .val (.int p2), .val (.int p3), .val (.int p4), .val (.int u0), .val (.int u1), .val (.int nl), .val (.int el), .val (.int x0), .unset, .unset, .unset, .unset, .unset, .unset, .unset, .unset, .unset, .unset, .unset, .unset, .unset, .unset] [])) _
    refine XS.iload X0.here hx rfl (hb hby at_74) rfl ?_
    show Steps p.tables e below (s₁.setTop (mkF m 76 #[.val (.int p1), .val (.int p2), .val (.int p3), .val (.int p4), .val (.int u0), .val (.int u1), .val (.int nl), .val (.int el), .val (.int x0), .unset, .unset, .unset, .unset, .unset, .unset, .unset, .unset, .unset, .unset, .unset, .unset, .unset, .unset] [(.int u1)])) _
    refine XS.iloadN X0.here hx rfl (hb hby at_76) rfl ?_
    show Steps p.tables e below (s₁.setTop (mkF m 77 #[.val (.int p1), .val (.int p2), .val (.int p3), .val (.int p4), .val (.int u0), .val (.int u1), .val (.int nl), .val (.int el), .val (.int x0), .unset, .unset, .unset, .unset, .unset, .unset, .unset, .unset, .unset, .unset, .unset, .unset, .unset, .unset] [(.int p1), (.int u1)])) _
    refine XS.bipush X0.here hx rfl (hb hby at_77) ?_
    show Steps p.tables e below (s₁.setTop (mkF m 79 #[.val (.int p1), .val (.int p2), .val (.int p3), .val (.int p4), .val (.int u0), .val (.int u1), .val (.int nl), .val (.int el), .val (.int x0), .unset, .unset, .unset, .unset, .unset, .unset, .unset, .unset, .unset, .unset, .unset, .unset, .unset, .unset] [(.int (22 : Int32)), (.int p1), (.int u1)])) _
    refine XS.iushr X0.here hx rfl (hb hby at_79) rfl ?_
    show Steps p.tables e below (s₁.setTop (mkF m 80 #[.val (.int p1), .val (.int p2), .val (.int p3), .val (.int p4), .val (.int u0), .val (.int u1), .val (.int nl), .val (.int el), .val (.int x0), .unset, .unset, .unset, .unset, .unset, .unset, .unset, .unset, .unset, .unset, .unset, .unset, .unset, .unset] [(.int ((p1.toUInt32 >>> ((22 : Int32) &&& 31).toUInt32).toInt32)), (.int u1)])) _
    refine XS.iconst X0.here hx rfl (hb hby at_80) ?_
    show Steps p.tables e below (s₁.setTop (mkF m 81 #[.val (.int p1), .val (.int p2), .val (.int p3), .val (.int p4), .val (.int u0), .val (.int u1), .val (.int nl), .val (.int el), .val (.int x0), .unset, .unset, .unset, .unset, .unset, .unset, .unset, .unset, .unset, .unset, .unset, .unset, .unset, .unset] [(.int (1 : Int32)), (.int ((p1.toUInt32 >>> ((22 : Int32) &&& 31).toUInt32).toInt32)), (.int u1)])) _
    refine XS.iand X0.here hx rfl (hb hby at_81) rfl ?_
    show Steps p.tables e below (s₁.setTop (mkF m 82 #[.val (.int p1), .val (.int p2), .val (.int p3), .val (.int p4), .val (.int u0), .val (.int u1), .val (.int nl), .val (.int el), .val (.int x0), .unset, .unset, .unset, .unset, .unset, .unset, .unset, .unset, .unset, .unset, .unset, .unset, .unset, .unset] [(.int (((p1.toUInt32 >>> ((22 : Int32) &&& 31).toUInt32).toInt32) &&& (1 : Int32))), (.int u1)])) _
    exact k
  obtain ⟨m1, hm1⟩ : ∃ z : Int32, z = (if (((p1.toUInt32 >>> ((22 : Int32) &&& 31).toUInt32).toInt32) &&& (1 : Int32)) = (0 : Int32) then (0 : Int32) else (((p2.toUInt32 >>> ((8 : Int32) &&& 31).toUInt32).toInt32) &&& (255 : Int32))) := ⟨_, rfl⟩
  refine own_go (B := s₁.setTop (mkF m 97 #[.val (.int p1), .val (.int p2), .val (.int p3), .val (.int p4), .val (.int u0), .val (.int u1), .val (.int nl), .val (.int el), .val (.int x0), .unset, .unset, .unset, .unset, .unset, .unset, .unset, .unset, .unset, .unset, .unset, .unset, .unset, .unset] [(.int m1), (.int u1)])) (fun t k => ?_) ?_
  · skip
    show Steps p.tables e below (s₁.setTop (mkF m 82 #[.val (.int p1), .val (.int p2), .val (.int p3), .val (.int p4), .val (.int u0), .val (.int u1), .val (.int nl), .val (.int el), .val (.int x0), .unset, .unset, .unset, .unset, .unset, .unset, .unset, .unset, .unset, .unset, .unset, .unset, .unset, .unset] [(.int (((p1.toUInt32 >>> ((22 : Int32) &&& 31).toUInt32).toInt32) &&& (1 : Int32))), (.int u1)])) _
    by_cases hm82 : (((p1.toUInt32 >>> ((22 : Int32) &&& 31).toUInt32).toInt32) &&& (1 : Int32)) = (0 : Int32)
    · skip
      simp only [if_pos hm82] at hm1
      rw [hm1] at k
      show Steps p.tables e below (s₁.setTop (mkF m 82 #[.val (.int p1), .val (.int p2), .val (.int p3), .val (.int p4), .val (.int u0), .val (.int u1), .val (.int nl), .val (.int el), .val (.int x0), .unset, .unset, .unset, .unset, .unset, .unset, .unset, .unset, .unset, .unset, .unset, .unset, .unset, .unset] [(.int (((p1.toUInt32 >>> ((22 : Int32) &&& 31).toUInt32).toInt32) &&& (1 : Int32))), (.int u1)])) _
      refine XS.ifYes X0.here hx rfl (pc0 := 82) (pc' := 96) rfl (hb hby at_82) rfl ((if0 _ _).trans (teq hm82).1) (by decide) (by decide) ?_
      show Steps p.tables e below (s₁.setTop (mkF m 96 #[.val (.int p1), .val (.int p2), .val (.int p3), .val (.int p4), .val (.int u0), .val (.int u1), .val (.int nl), .val (.int el), .val (.int x0), .unset, .unset, .unset, .unset, .unset, .unset, .unset, .unset, .unset, .unset, .unset, .unset, .unset, .unset] [(.int u1)])) _
      refine XS.iconst X0.here hx rfl (hb hby at_96) ?_
      show Steps p.tables e below (s₁.setTop (mkF m 97 #[.val (.int p1), .val (.int p2), .val (.int p3), .val (.int p4), .val (.int u0), .val (.int u1), .val (.int nl), .val (.int el), .val (.int x0), .unset, .unset, .unset, .unset, .unset, .unset, .unset, .unset, .unset, .unset, .unset, .unset, .unset, .unset] [(.int (0 : Int32)), (.int u1)])) _
      exact k
    · skip
      simp only [if_neg hm82] at hm1
      rw [hm1] at k
      show Steps p.tables e below (s₁.setTop (mkF m 82 #[.val (.int p1), .val (.int p2), .val (.int p3), .val (.int p4), .val (.int u0), .val (.int u1), .val (.int nl), .val (.int el), .val (.int x0), .unset, .unset, .unset, .unset, .unset, .unset, .unset, .unset, .unset, .unset, .unset, .unset, .unset, .unset] [(.int (((p1.toUInt32 >>> ((22 : Int32) &&& 31).toUInt32).toInt32) &&& (1 : Int32))), (.int u1)])) _
      refine XS.ifNo X0.here hx rfl (hb hby at_82) rfl ((if0 _ _).trans (feq hm82).1) ?_
      show Steps p.tables e below (s₁.setTop (mkF m 85 #[.val (.int p1), .val (.int p2), .val (.int p3), .val (.int p4), .val (.int u0), .val (.int u1), .val (.int nl), .val (.int el), .val (.int x0), .unset, .unset, .unset, .unset, .unset, .unset, .unset, .unset, .unset, .unset, .unset, .unset, .unset, .unset] [(.int u1)])) _
      refine XS.iloadN X0.here hx rfl (hb hby at_85) rfl ?_
      show Steps p.tables e below (s₁.setTop (mkF m 86 #[.val (.int p1), .val (.int p2), .val (.int p3), .val (.int p4), .val (.int u0), .val (.int u1), .val (.int nl), .val (.int el), .val (.int x0), .unset, .unset, .unset, .unset, .unset, .unset, .unset, .unset, .unset, .unset, .unset, .unset, .unset, .unset] [(.int p2), (.int u1)])) _
      refine XS.bipush X0.here hx rfl (hb hby at_86) ?_
      show Steps p.tables e below (s₁.setTop (mkF m 88 #[.val (.int p1), .val (.int p2), .val (.int p3), .val (.int p4), .val (.int u0), .val (.int u1), .val (.int nl), .val (.int el), .val (.int x0), .unset, .unset, .unset, .unset, .unset, .unset, .unset, .unset, .unset, .unset, .unset, .unset, .unset, .unset] [(.int (8 : Int32)), (.int p2), (.int u1)])) _
      refine XS.iushr X0.here hx rfl (hb hby at_88) rfl ?_
      show Steps p.tables e below (s₁.setTop (mkF m 89 #[.val (.int p1), .val (.int p2), .val (.int p3), .val (.int p4), .val (.int u0), .val (.int u1), .val (.int nl), .val (.int el), .val (.int x0), .unset, .unset, .unset, .unset, .unset, .unset, .unset, .unset, .unset, .unset, .unset, .unset, .unset, .unset] [(.int ((p2.toUInt32 >>> ((8 : Int32) &&& 31).toUInt32).toInt32)), (.int u1)])) _
      refine XS.sipush X0.here hx rfl (hb hby at_89) ?_
      show Steps p.tables e below (s₁.setTop (mkF m 92 #[.val (.int p1), .val (.int p2), .val (.int p3), .val (.int p4), .val (.int u0), .val (.int u1), .val (.int nl), .val (.int el), .val (.int x0), .unset, .unset, .unset, .unset, .unset, .unset, .unset, .unset, .unset, .unset, .unset, .unset, .unset, .unset] [(.int (255 : Int32)), (.int ((p2.toUInt32 >>> ((8 : Int32) &&& 31).toUInt32).toInt32)), (.int u1)])) _
      refine XS.iand X0.here hx rfl (hb hby at_92) rfl ?_
      show Steps p.tables e below (s₁.setTop (mkF m 93 #[.val (.int p1), .val (.int p2), .val (.int p3), .val (.int p4), .val (.int u0), .val (.int u1), .val (.int nl), .val (.int el), .val (.int x0), .unset, .unset, .unset, .unset, .unset, .unset, .unset, .unset, .unset, .unset, .unset, .unset, .unset, .unset] [(.int (((p2.toUInt32 >>> ((8 : Int32) &&& 31).toUInt32).toInt32) &&& (255 : Int32))), (.int u1)])) _
      refine XS.goto X0.here hx rfl (pc0 := 93) (pc' := 97) rfl (hb hby at_93) (by decide) (by decide) ?_
      show Steps p.tables e below (s₁.setTop (mkF m 97 #[.val (.int p1), .val (.int p2), .val (.int p3), .val (.int p4), .val (.int u0), .val (.int u1), .val (.int nl), .val (.int el), .val (.int x0), .unset, .unset, .unset, .unset, .unset, .unset, .unset, .unset, .unset, .unset, .unset, .unset, .unset, .unset] [(.int (((p2.toUInt32 >>> ((8 : Int32) &&& 31).toUInt32).toInt32) &&& (255 : Int32))), (.int u1)])) _
      exact k
  refine own_go (B := s₁.setTop (mkF m 100 #[.val (.int p1), .val (.int p2), .val (.int p3), .val (.int p4), .val (.int u0), .val (.int u1), .val (.int nl), .val (.int el), .val (.int x0), .val (.int (u1 ^^^ m1)), .unset, .unset, .unset, .unset, .unset, .unset, .unset, .unset, .unset, .unset, .unset, .unset, .unset] [])) (fun t k => ?_) ?_
  · show Steps p.tables e below (s₁.setTop (mkF m 97 #[.val (.int p1), .val (.int p2), .val (.int p3), .val (.int p4), .val (.int u0), .val (.int u1), .val (.int nl), .val (.int el), .val (.int x0), .unset, .unset, .unset, .unset, .unset, .unset, .unset, .unset, .unset, .unset, .unset, .unset, .unset, .unset] [(.int m1), (.int u1)])) _
    refine XS.ixor X0.here hx rfl (hb hby at_97) rfl ?_
    show Steps p.tables e below (s₁.setTop (mkF m 98 #[.val (.int p1), .val (.int p2), .val (.int p3), .val (.int p4), .val (.int u0), .val (.int u1), .val (.int nl), .val (.int el), .val (.int x0), .unset, .unset, .unset, .unset, .unset, .unset, .unset, .unset, .unset, .unset, .unset, .unset, .unset, .unset] [(.int (u1 ^^^ m1))])) _
    refine XS.istore X0.here hx rfl (hb hby at_98) rfl (l' := #[.val (.int p1), .val (.int p2), .val (.int p3), .val (.int p4), .val (.int u0), .val (.int u1), .val (.int nl), .val (.int el), .val (.int x0), .val (.int (u1 ^^^ m1)), .unset, .unset, .unset, .unset, .unset, .unset, .unset, .unset, .unset, .unset, .unset, .unset, .unset]) rfl ?_
    show Steps p.tables e below (s₁.setTop (mkF m 100 #[.val (.int p1), .val (.int p2), .val (.int p3), .val (.int p4), .val (.int u0), .val (.int u1), .val (.int nl), .val (.int el), .val (.int x0), .val (.int (u1 ^^^ m1)), .unset, .unset, .unset, .unset, .unset, .unset, .unset, .unset, .unset, .unset, .unset, .unset, .unset] [])) _
    exact k
  obtain ⟨x1, hx1⟩ : ∃ z : Int32, z = (u1 ^^^ m1) := ⟨_, rfl⟩
  rw [← hx1]
  have bx1 : ¬ x1 < 0 ∧ ¬ (255 : Int32) < x1 := by rw [hx1, hu1, hm1]; split; exact own_xor0 _; exact own_xor255 _ _
  refine own_go (B := s₁.setTop (mkF m 107 #[.val (.int p1), .val (.int p2), .val (.int p3), .val (.int p4), .val (.int u0), .val (.int u1), .val (.int nl), .val (.int el), .val (.int x0), .val (.int x1), .val (.int (p3 &&& (255 : Int32))), .unset, .unset, .unset, .unset, .unset, .unset, .unset, .unset, .unset, .unset, .unset, .unset] [])) (fun t k => ?_) ?_
  · show Steps p.tables e below (s₁.setTop (mkF m 100 #[.val (.int p1), .val (.int p2), .val (.int p3), .val (.int p4), .val (.int u0), .val (.int u1), .val (.int nl), .val (.int el), .val (.int x0), .val (.int x1), .unset, .unset, .unset, .unset, .unset, .unset, .unset, .unset, .unset, .unset, .unset, .unset, .unset] [])) _
    refine XS.iloadN X0.here hx rfl (hb hby at_100) rfl ?_
    show Steps p.tables e below (s₁.setTop (mkF m 101 #[.val (.int p1), .val (.int p2), .val (.int p3), .val (.int p4), .val (.int u0), .val (.int u1), .val (.int nl), .val (.int el), .val (.int x0), .val (.int x1), .unset, .unset, .unset, .unset, .unset, .unset, .unset, .unset, .unset, .unset, .unset, .unset, .unset] [(.int p3)])) _
    refine XS.sipush X0.here hx rfl (hb hby at_101) ?_
    show Steps p.tables e below (s₁.setTop (mkF m 104 #[.val (.int p1), .val (.int p2), .val (.int p3), .val (.int p4), .val (.int u0), .val (.int u1), .val (.int nl), .val (.int el), .val (.int x0), .val (.int x1), .unset, .unset, .unset, .unset, .unset, .unset, .unset, .unset, .unset, .unset, .unset, .unset, .unset] [(.int (255 : Int32)), (.int p3)])) _
    refine XS.iand X0.here hx rfl (hb hby at_104) rfl ?_
    show Steps p.tables e below (s₁.setTop (mkF m 105 #[.val (.int p1), .val (.int p2), .val (.int p3), .val (.int p4), .val (.int u0), .val (.int u1), .val (.int nl), .val (.int el), .val (.int x0), .val (.int x1), .unset, .unset, .unset, .unset, .unset, .unset, .unset, .unset, .unset, .unset, .unset, .unset, .unset] [(.int (p3 &&& (255 : Int32)))])) _
    refine XS.istore X0.here hx rfl (hb hby at_105) rfl (l' := #[.val (.int p1), .val (.int p2), .val (.int p3), .val (.int p4), .val (.int u0), .val (.int u1), .val (.int nl), .val (.int el), .val (.int x0), .val (.int x1), .val (.int (p3 &&& (255 : Int32))), .unset, .unset, .unset, .unset, .unset, .unset, .unset, .unset, .unset, .unset, .unset, .unset]) rfl ?_
    show Steps p.tables e below (s₁.setTop (mkF m 107 #[.val (.int p1), .val (.int p2), .val (.int p3), .val (.int p4), .val (.int u0), .val (.int u1), .val (.int nl), .val (.int el), .val (.int x0), .val (.int x1), .val (.int (p3 &&& (255 : Int32))), .unset, .unset, .unset, .unset, .unset, .unset, .unset, .unset, .unset, .unset, .unset, .unset] [])) _
    exact k
  obtain ⟨l0, hl0⟩ : ∃ z : Int32, z = (p3 &&& (255 : Int32)) := ⟨_, rfl⟩
  rw [← hl0]
  have bl0 : ¬ l0 < 0 ∧ ¬ (255 : Int32) < l0 := by rw [hl0]; exact own_b255 _
  refine own_go (B := s₁.setTop (mkF m 117 #[.val (.int p1), .val (.int p2), .val (.int p3), .val (.int p4), .val (.int u0), .val (.int u1), .val (.int nl), .val (.int el), .val (.int x0), .val (.int x1), .val (.int l0), .val (.int (((p3.toUInt32 >>> ((8 : Int32) &&& 31).toUInt32).toInt32) &&& (255 : Int32))), .unset, .unset, .unset, .unset, .unset, .unset, .unset, .unset, .unset, .unset, .unset] [])) (fun t k => ?_) ?_
  · show Steps p.tables e below (s₁.setTop (mkF m 107 #[.val (.int p1), .val (.int p2), .val (.int p3), .val (.int p4), .val (.int u0), .val (.int u1), .val (.int nl), .val (.int el), .val (.int x0), .val (.int x1), .val (.int l0), .unset, .unset, .unset, .unset, .unset, .unset, .unset, .unset, .unset, .unset, .unset, .unset] [])) _
    refine XS.iloadN X0.here hx rfl (hb hby at_107) rfl ?_
    show Steps p.tables e below (s₁.setTop (mkF m 108 #[.val (.int p1), .val (.int p2), .val (.int p3), .val (.int p4), .val (.int u0), .val (.int u1), .val (.int nl), .val (.int el), .val (.int x0), .val (.int x1), .val (.int l0), .unset, .unset, .unset, .unset, .unset, .unset, .unset, .unset, .unset, .unset, .unset, .unset] [(.int p3)])) _
    refine XS.bipush X0.here hx rfl (hb hby at_108) ?_
    show Steps p.tables e below (s₁.setTop (mkF m 110 #[.val (.int p1), .val (.int p2), .val (.int p3), .val (.int p4), .val (.int u0), .val (.int u1), .val (.int nl), .val (.int el), .val (.int x0), .val (.int x1), .val (.int l0), .unset, .unset, .unset, .unset, .unset, .unset, .unset, .unset, .unset, .unset, .unset, .unset] [(.int (8 : Int32)), (.int p3)])) _
    refine XS.iushr X0.here hx rfl (hb hby at_110) rfl ?_
    show Steps p.tables e below (s₁.setTop (mkF m 111 #[.val (.int p1), .val (.int p2), .val (.int p3), .val (.int p4), .val (.int u0), .val (.int u1), .val (.int nl), .val (.int el), .val (.int x0), .val (.int x1), .val (.int l0), .unset, .unset, .unset, .unset, .unset, .unset, .unset, .unset, .unset, .unset, .unset, .unset] [(.int ((p3.toUInt32 >>> ((8 : Int32) &&& 31).toUInt32).toInt32))])) _
    refine XS.sipush X0.here hx rfl (hb hby at_111) ?_
    show Steps p.tables e below (s₁.setTop (mkF m 114 #[.val (.int p1), .val (.int p2), .val (.int p3), .val (.int p4), .val (.int u0), .val (.int u1), .val (.int nl), .val (.int el), .val (.int x0), .val (.int x1), .val (.int l0), .unset, .unset, .unset, .unset, .unset, .unset, .unset, .unset, .unset, .unset, .unset, .unset] [(.int (255 : Int32)), (.int ((p3.toUInt32 >>> ((8 : Int32) &&& 31).toUInt32).toInt32))])) _
    refine XS.iand X0.here hx rfl (hb hby at_114) rfl ?_
    show Steps p.tables e below (s₁.setTop (mkF m 115 #[.val (.int p1), .val (.int p2), .val (.int p3), .val (.int p4), .val (.int u0), .val (.int u1), .val (.int nl), .val (.int el), .val (.int x0), .val (.int x1), .val (.int l0), .unset, .unset, .unset, .unset, .unset, .unset, .unset, .unset, .unset, .unset, .unset, .unset] [(.int (((p3.toUInt32 >>> ((8 : Int32) &&& 31).toUInt32).toInt32) &&& (255 : Int32)))])) _
    refine XS.istore X0.here hx rfl (hb hby at_115) rfl (l' := #[.val (.int p1), .val (.int p2), .val (.int p3), .val (.int p4), .val (.int u0), .val (.int u1), .val (.int nl), .val (.int el), .val (.int x0), .val (.int x1), .val (.int l0), .val (.int (((p3.toUInt32 >>> ((8 : Int32) &&& 31).toUInt32).toInt32) &&& (255 : Int32))), .unset, .unset, .unset, .unset, .unset, .unset, .unset, .unset, .unset, .unset, .unset]) rfl ?_
    show Steps p.tables e below (s₁.setTop (mkF m 117 #[.val (.int p1), .val (.int p2), .val (.int p3), .val (.int p4), .val (.int u0), .val (.int u1), .val (.int nl), .val (.int el), .val (.int x0), .val (.int x1), .val (.int l0), .val (.int (((p3.toUInt32 >>> ((8 : Int32) &&& 31).toUInt32).toInt32) &&& (255 : Int32))), .unset, .unset, .unset, .unset, .unset, .unset, .unset, .unset, .unset, .unset, .unset] [])) _
    exact k
  obtain ⟨l1, hl1⟩ : ∃ z : Int32, z = (((p3.toUInt32 >>> ((8 : Int32) &&& 31).toUInt32).toInt32) &&& (255 : Int32)) := ⟨_, rfl⟩
  rw [← hl1]
  have bl1 : ¬ l1 < 0 ∧ ¬ (255 : Int32) < l1 := by rw [hl1]; exact own_b255 _
  refine own_go (B := s₁.setTop (mkF m 127 #[.val (.int p1), .val (.int p2), .val (.int p3), .val (.int p4), .val (.int u0), .val (.int u1), .val (.int nl), .val (.int el), .val (.int x0), .val (.int x1), .val (.int l0), .val (.int l1), .val (.int ((((p3.toUInt32 >>> ((16 : Int32) &&& 31).toUInt32).toInt32) &&& (3 : Int32)) % (3 : Int32))), .unset, .unset, .unset, .unset, .unset, .unset, .unset, .unset, .unset, .unset] [])) (fun t k => ?_) ?_
  · show Steps p.tables e below (s₁.setTop (mkF m 117 #[.val (.int p1), .val (.int p2), .val (.int p3), .val (.int p4), .val (.int u0), .val (.int u1), .val (.int nl), .val (.int el), .val (.int x0), .val (.int x1), .val (.int l0), .val (.int l1), .unset, .unset, .unset, .unset, .unset, .unset, .unset, .unset, .unset, .unset, .unset] [])) _
    refine XS.iloadN X0.here hx rfl (hb hby at_117) rfl ?_
    show Steps p.tables e below (s₁.setTop (mkF m 118 #[.val (.int p1), .val (.int p2), .val (.int p3), .val (.int p4), .val (.int u0), .val (.int u1), .val (.int nl), .val (.int el), .val (.int x0), .val (.int x1), .val (.int l0), .val (.int l1), .unset, .unset, .unset, .unset, .unset, .unset, .unset, .unset, .unset, .unset, .unset] [(.int p3)])) _
    refine XS.bipush X0.here hx rfl (hb hby at_118) ?_
    show Steps p.tables e below (s₁.setTop (mkF m 120 #[.val (.int p1), .val (.int p2), .val (.int p3), .val (.int p4), .val (.int u0), .val (.int u1), .val (.int nl), .val (.int el), .val (.int x0), .val (.int x1), .val (.int l0), .val (.int l1), .unset, .unset, .unset, .unset, .unset, .unset, .unset, .unset, .unset, .unset, .unset] [(.int (16 : Int32)), (.int p3)])) _
    refine XS.iushr X0.here hx rfl (hb hby at_120) rfl ?_
    show Steps p.tables e below (s₁.setTop (mkF m 121 #[.val (.int p1), .val (.int p2), .val (.int p3), .val (.int p4), .val (.int u0), .val (.int u1), .val (.int nl), .val (.int el), .val (.int x0), .val (.int x1), .val (.int l0), .val (.int l1), .unset, .unset, .unset, .unset, .unset, .unset, .unset, .unset, .unset, .unset, .unset] [(.int ((p3.toUInt32 >>> ((16 : Int32) &&& 31).toUInt32).toInt32))])) _
    refine XS.iconst X0.here hx rfl (hb hby at_121) ?_
    show Steps p.tables e below (s₁.setTop (mkF m 122 #[.val (.int p1), .val (.int p2), .val (.int p3), .val (.int p4), .val (.int u0), .val (.int u1), .val (.int nl), .val (.int el), .val (.int x0), .val (.int x1), .val (.int l0), .val (.int l1), .unset, .unset, .unset, .unset, .unset, .unset, .unset, .unset, .unset, .unset, .unset] [(.int (3 : Int32)), (.int ((p3.toUInt32 >>> ((16 : Int32) &&& 31).toUInt32).toInt32))])) _
    refine XS.iand X0.here hx rfl (hb hby at_122) rfl ?_
    show Steps p.tables e below (s₁.setTop (mkF m 123 #[.val (.int p1), .val (.int p2), .val (.int p3), .val (.int p4), .val (.int u0), .val (.int u1), .val (.int nl), .val (.int el), .val (.int x0), .val (.int x1), .val (.int l0), .val (.int l1), .unset, .unset, .unset, .unset, .unset, .unset, .unset, .unset, .unset, .unset, .unset] [(.int (((p3.toUInt32 >>> ((16 : Int32) &&& 31).toUInt32).toInt32) &&& (3 : Int32)))])) _
    refine XS.iconst X0.here hx rfl (hb hby at_123) ?_
    show Steps p.tables e below (s₁.setTop (mkF m 124 #[.val (.int p1), .val (.int p2), .val (.int p3), .val (.int p4), .val (.int u0), .val (.int u1), .val (.int nl), .val (.int el), .val (.int x0), .val (.int x1), .val (.int l0), .val (.int l1), .unset, .unset, .unset, .unset, .unset, .unset, .unset, .unset, .unset, .unset, .unset] [(.int (3 : Int32)), (.int (((p3.toUInt32 >>> ((16 : Int32) &&& 31).toUInt32).toInt32) &&& (3 : Int32)))])) _
    refine Jvm.RoadKit.iremM (g := (mkF m 124 #[.val (.int p1), .val (.int p2), .val (.int p3), .val (.int p4), .val (.int u0), .val (.int u1), .val (.int nl), .val (.int el), .val (.int x0), .val (.int x1), .val (.int l0), .val (.int l1), .unset, .unset, .unset, .unset, .unset, .unset, .unset, .unset, .unset, .unset, .unset] [(.int (3 : Int32)), (.int (((p3.toUInt32 >>> ((16 : Int32) &&& 31).toUInt32).toInt32) &&& (3 : Int32)))])) X0 hx rfl (hb hby at_124) rfl (by decide) ?_
    show Steps p.tables e below (s₁.setTop (mkF m 125 #[.val (.int p1), .val (.int p2), .val (.int p3), .val (.int p4), .val (.int u0), .val (.int u1), .val (.int nl), .val (.int el), .val (.int x0), .val (.int x1), .val (.int l0), .val (.int l1), .unset, .unset, .unset, .unset, .unset, .unset, .unset, .unset, .unset, .unset, .unset] [(.int ((((p3.toUInt32 >>> ((16 : Int32) &&& 31).toUInt32).toInt32) &&& (3 : Int32)) % (3 : Int32)))])) _
    refine XS.istore X0.here hx rfl (hb hby at_125) rfl (l' := #[.val (.int p1), .val (.int p2), .val (.int p3), .val (.int p4), .val (.int u0), .val (.int u1), .val (.int nl), .val (.int el), .val (.int x0), .val (.int x1), .val (.int l0), .val (.int l1), .val (.int ((((p3.toUInt32 >>> ((16 : Int32) &&& 31).toUInt32).toInt32) &&& (3 : Int32)) % (3 : Int32))), .unset, .unset, .unset, .unset, .unset, .unset, .unset, .unset, .unset, .unset]) rfl ?_
    show Steps p.tables e below (s₁.setTop (mkF m 127 #[.val (.int p1), .val (.int p2), .val (.int p3), .val (.int p4), .val (.int u0), .val (.int u1), .val (.int nl), .val (.int el), .val (.int x0), .val (.int x1), .val (.int l0), .val (.int l1), .val (.int ((((p3.toUInt32 >>> ((16 : Int32) &&& 31).toUInt32).toInt32) &&& (3 : Int32)) % (3 : Int32))), .unset, .unset, .unset, .unset, .unset, .unset, .unset, .unset, .unset, .unset] [])) _
    exact k
  obtain ⟨ll, hll⟩ : ∃ z : Int32, z = ((((p3.toUInt32 >>> ((16 : Int32) &&& 31).toUInt32).toInt32) &&& (3 : Int32)) % (3 : Int32)) := ⟨_, rfl⟩
  rw [← hll]
  have bll : ll = (0 : Int32) ∨ ll = (1 : Int32) ∨ ll = (2 : Int32) := by rw [hll]; exact own_len3 _
  refine own_go (B := s₁.setTop (mkF m 133 #[.val (.int p1), .val (.int p2), .val (.int p3), .val (.int p4), .val (.int u0), .val (.int u1), .val (.int nl), .val (.int el), .val (.int x0), .val (.int x1), .val (.int l0), .val (.int l1), .val (.int ll), .unset, .unset, .unset, .unset, .unset, .unset, .unset, .unset, .unset, .unset] [(.int (((p3.toUInt32 >>> ((18 : Int32) &&& 31).toUInt32).toInt32) &&& (1 : Int32)))])) (fun t k => ?_) ?_
  · show Steps p.tables e below (s₁.setTop (mkF m 127 #[.val (.int p1), .val (.int p2), .val (.int p3), .val (.int p4), .val (.int u0), .val (.int u1), .val (.int nl), .val (.int el), .val (.int x0), .val (.int x1), .val (.int l0), .val (.int l1), .val (.int ll), .unset, .unset, .unset, .unset, .unset, .unset, .unset, .unset, .unset, .unset] [])) _
    refine XS.iloadN X0.here hx rfl (hb hby at_127) rfl ?_
    show Steps p.tables e below (s₁.setTop (mkF m 128 #[.val (.int p1), .val (.int p2), .val (.int p3), .val (.int p4), .val (.int u0), .val (.int u1), .val (.int nl), .val (.int el), .val (.int x0), .val (.int x1), .val (.int l0), .val (.int l1), .val (.int ll), .unset, .unset, .unset, .unset, .unset, .unset, .unset, .unset, .unset, .unset] [(.int p3)])) _
    refine XS.bipush X0.here hx rfl (hb hby at_128) ?_
    show Steps p.tables e below (s₁.setTop (mkF m 130 #[.val (.int p1), .val (.int p2), .val (.int p3), .val (.int p4), .val (.int u0), .val (.int u1), .val (.int nl), .val (.int el), .val (.int x0), .val (.int x1), .val (.int l0), .val (.int l1), .val (.int ll), .unset, .unset, .unset, .unset, .unset, .unset, .unset, .unset, .unset, .unset] [(.int (18 : Int32)), (.int p3)])) _
    refine XS.iushr X0.here hx rfl (hb hby at_130) rfl ?_
    show Steps p.tables e below (s₁.setTop (mkF m 131 #[.val (.int p1), .val (.int p2), .val (.int p3), .val (.int p4), .val (.int u0), .val (.int u1), .val (.int nl), .val (.int el), .val (.int x0), .val (.int x1), .val (.int l0), .val (.int l1), .val (.int ll), .unset, .unset, .unset, .unset, .unset, .unset, .unset, .unset, .unset, .unset] [(.int ((p3.toUInt32 >>> ((18 : Int32) &&& 31).toUInt32).toInt32))])) _
    refine XS.iconst X0.here hx rfl (hb hby at_131) ?_
    show Steps p.tables e below (s₁.setTop (mkF m 132 #[.val (.int p1), .val (.int p2), .val (.int p3), .val (.int p4), .val (.int u0), .val (.int u1), .val (.int nl), .val (.int el), .val (.int x0), .val (.int x1), .val (.int l0), .val (.int l1), .val (.int ll), .unset, .unset, .unset, .unset, .unset, .unset, .unset, .unset, .unset, .unset] [(.int (1 : Int32)), (.int ((p3.toUInt32 >>> ((18 : Int32) &&& 31).toUInt32).toInt32))])) _
    refine XS.iand X0.here hx rfl (hb hby at_132) rfl ?_
    show Steps p.tables e below (s₁.setTop (mkF m 133 #[.val (.int p1), .val (.int p2), .val (.int p3), .val (.int p4), .val (.int u0), .val (.int u1), .val (.int nl), .val (.int el), .val (.int x0), .val (.int x1), .val (.int l0), .val (.int l1), .val (.int ll), .unset, .unset, .unset, .unset, .unset, .unset, .unset, .unset, .unset, .unset] [(.int (((p3.toUInt32 >>> ((18 : Int32) &&& 31).toUInt32).toInt32) &&& (1 : Int32)))])) _
    exact k
  obtain ⟨fl, hfl⟩ : ∃ z : Int32, z = (if (((p3.toUInt32 >>> ((18 : Int32) &&& 31).toUInt32).toInt32) &&& (1 : Int32)) = (0 : Int32) then ll else ((((p3.toUInt32 >>> ((19 : Int32) &&& 31).toUInt32).toInt32) &&& (3 : Int32)) % (3 : Int32))) := ⟨_, rfl⟩
  refine own_go (B := s₁.setTop (mkF m 149 #[.val (.int p1), .val (.int p2), .val (.int p3), .val (.int p4), .val (.int u0), .val (.int u1), .val (.int nl), .val (.int el), .val (.int x0), .val (.int x1), .val (.int l0), .val (.int l1), .val (.int ll), .unset, .unset, .unset, .unset, .unset, .unset, .unset, .unset, .unset, .unset] [(.int fl)])) (fun t k => ?_) ?_
  · skip
    show Steps p.tables e below (s₁.setTop (mkF m 133 #[.val (.int p1), .val (.int p2), .val (.int p3), .val (.int p4), .val (.int u0), .val (.int u1), .val (.int nl), .val (.int el), .val (.int x0), .val (.int x1), .val (.int l0), .val (.int l1), .val (.int ll), .unset, .unset, .unset, .unset, .unset, .unset, .unset, .unset, .unset, .unset] [(.int (((p3.toUInt32 >>> ((18 : Int32) &&& 31).toUInt32).toInt32) &&& (1 : Int32)))])) _
    by_cases hm133 : (((p3.toUInt32 >>> ((18 : Int32) &&& 31).toUInt32).toInt32) &&& (1 : Int32)) = (0 : Int32)
    · skip
      simp only [if_pos hm133] at hfl
      rw [hfl] at k
      show Steps p.tables e below (s₁.setTop (mkF m 133 #[.val (.int p1), .val (.int p2), .val (.int p3), .val (.int p4), .val (.int u0), .val (.int u1), .val (.int nl), .val (.int el), .val (.int x0), .val (.int x1), .val (.int l0), .val (.int l1), .val (.int ll), .unset, .unset, .unset, .unset, .unset, .unset, .unset, .unset, .unset, .unset] [(.int (((p3.toUInt32 >>> ((18 : Int32) &&& 31).toUInt32).toInt32) &&& (1 : Int32)))])) _
      refine XS.ifNo X0.here hx rfl (hb hby at_133) rfl ((if0 _ _).trans (teq hm133).2) ?_
      show Steps p.tables e below (s₁.setTop (mkF m 136 #[.val (.int p1), .val (.int p2), .val (.int p3), .val (.int p4), .val (.int u0), .val (.int u1), .val (.int nl), .val (.int el), .val (.int x0), .val (.int x1), .val (.int l0), .val (.int l1), .val (.int ll), .unset, .unset, .unset, .unset, .unset, .unset, .unset, .unset, .unset, .unset] [])) _
      refine XS.iload X0.here hx rfl (hb hby at_136) rfl ?_
      show Steps p.tables e below (s₁.setTop (mkF m 138 #[.val (.int p1), .val (.int p2), .val (.int p3), .val (.int p4), .val (.int u0), .val (.int u1), .val (.int nl), .val (.int el), .val (.int x0), .val (.int x1), .val (.int l0), .val (.int l1), .val (.int ll), .unset, .unset, .unset, .unset, .unset, .unset, .unset, .unset, .unset, .unset] [(.int ll)])) _
      refine XS.goto X0.here hx rfl (pc0 := 138) (pc' := 149) rfl (hb hby at_138) (by decide) (by decide) ?_
      show Steps p.tables e below (s₁.setTop (mkF m 149 #[.val (.int p1), .val (.int p2), .val (.int p3), .val (.int p4), .val (.int u0), .val (.int u1), .val (.int nl), .val (.int el), .val (.int x0), .val (.int x1), .val (.int l0), .val (.int l1), .val (.int ll), .unset, .unset, .unset, .unset, .unset, .unset, .unset, .unset, .unset, .unset] [(.int ll)])) _
      exact k
    · skip
      simp only [if_neg hm133] at hfl
      rw [hfl] at k
      show Steps p.tables e below (s₁.setTop (mkF m 133 #[.val (.int p1), .val (.int p2), .val (.int p3), .val (.int p4), .val (.int u0), .val (.int u1), .val (.int nl), .val (.int el), .val (.int x0), .val (.int x1), .val (.int l0), .val (.int l1), .val (.int ll), .unset, .unset, .unset, .unset, .unset, .unset, .unset, .unset, .unset, .unset] [(.int (((p3.toUInt32 >>> ((18 : Int32) &&& 31).toUInt32).toInt32) &&& (1 : Int32)))])) _
      refine XS.ifYes X0.here hx rfl (pc0 := 133) (pc' := 141) rfl (hb hby at_133) rfl ((if0 _ _).trans (feq hm133).2) (by decide) (by decide) ?_
      show Steps p.tables e below (s₁.setTop (mkF m 141 #[.val (.int p1), .val (.int p2), .val (.int p3), .val (.int p4), .val (.int u0), .val (.int u1), .val (.int nl), .val (.int el), .val (.int x0), .val (.int x1), .val (.int l0), .val (.int l1), .val (.int ll), .unset, .unset, .unset, .unset, .unset, .unset, .unset, .unset, .unset, .unset] [])) _
      refine XS.iloadN X0.here hx rfl (hb hby at_141) rfl ?_
      show Steps p.tables e below (s₁.setTop (mkF m 142 #[.val (.int p1), .val (.int p2), .val (.int p3), .val (.int p4), .val (.int u0), .val (.int u1), .val (.int nl), .val (.int el), .val (.int x0), .val (.int x1), .val (.int l0), .val (.int l1), .val (.int ll), .unset, .unset, .unset, .unset, .unset, .unset, .unset, .unset, .unset, .unset] [(.int p3)])) _
      refine XS.bipush X0.here hx rfl (hb hby at_142) ?_
      show Steps p.tables e below (s₁.setTop (mkF m 144 #[.val (.int p1), .val (.int p2), .val (.int p3), .val (.int p4), .val (.int u0), .val (.int u1), .val (.int nl), .val (.int el), .val (.int x0), .val (.int x1), .val (.int l0), .val (.int l1), .val (.int ll), .unset, .unset, .unset, .unset, .unset, .unset, .unset, .unset, .unset, .unset] [(.int (19 : Int32)), (.int p3)])) _
      refine XS.iushr X0.here hx rfl (hb hby at_144) rfl ?_
      show Steps p.tables e below (s₁.setTop (mkF m 145 #[.val (.int p1), .val (.int p2), .val (.int p3), .val (.int p4), .val (.int u0), .val (.int u1), .val (.int nl), .val (.int el), .val (.int x0), .val (.int x1), .val (.int l0), .val (.int l1), .val (.int ll), .unset, .unset, .unset, .unset, .unset, .unset, .unset, .unset, .unset, .unset] [(.int ((p3.toUInt32 >>> ((19 : Int32) &&& 31).toUInt32).toInt32))])) _
      refine XS.iconst X0.here hx rfl (hb hby at_145) ?_
      show Steps p.tables e below (s₁.setTop (mkF m 146 #[.val (.int p1), .val (.int p2), .val (.int p3), .val (.int p4), .val (.int u0), .val (.int u1), .val (.int nl), .val (.int el), .val (.int x0), .val (.int x1), .val (.int l0), .val (.int l1), .val (.int ll), .unset, .unset, .unset, .unset, .unset, .unset, .unset, .unset, .unset, .unset] [(.int (3 : Int32)), (.int ((p3.toUInt32 >>> ((19 : Int32) &&& 31).toUInt32).toInt32))])) _
      refine XS.iand X0.here hx rfl (hb hby at_146) rfl ?_
      show Steps p.tables e below (s₁.setTop (mkF m 147 #[.val (.int p1), .val (.int p2), .val (.int p3), .val (.int p4), .val (.int u0), .val (.int u1), .val (.int nl), .val (.int el), .val (.int x0), .val (.int x1), .val (.int l0), .val (.int l1), .val (.int ll), .unset, .unset, .unset, .unset, .unset, .unset, .unset, .unset, .unset, .unset] [(.int (((p3.toUInt32 >>> ((19 : Int32) &&& 31).toUInt32).toInt32) &&& (3 : Int32)))])) _
      refine XS.iconst X0.here hx rfl (hb hby at_147) ?_
      show Steps p.tables e below (s₁.setTop (mkF m 148 #[.val (.int p1), .val (.int p2), .val (.int p3), .val (.int p4), .val (.int u0), .val (.int u1), .val (.int nl), .val (.int el), .val (.int x0), .val (.int x1), .val (.int l0), .val (.int l1), .val (.int ll), .unset, .unset, .unset, .unset, .unset, .unset, .unset, .unset, .unset, .unset] [(.int (3 : Int32)), (.int (((p3.toUInt32 >>> ((19 : Int32) &&& 31).toUInt32).toInt32) &&& (3 : Int32)))])) _
      refine Jvm.RoadKit.iremM (g := (mkF m 148 #[.val (.int p1), .val (.int p2), .val (.int p3), .val (.int p4), .val (.int u0), .val (.int u1), .val (.int nl), .val (.int el), .val (.int x0), .val (.int x1), .val (.int l0), .val (.int l1), .val (.int ll), .unset, .unset, .unset, .unset, .unset, .unset, .unset, .unset, .unset, .unset] [(.int (3 : Int32)), (.int (((p3.toUInt32 >>> ((19 : Int32) &&& 31).toUInt32).toInt32) &&& (3 : Int32)))])) X0 hx rfl (hb hby at_148) rfl (by decide) ?_
      show Steps p.tables e below (s₁.setTop (mkF m 149 #[.val (.int p1), .val (.int p2), .val (.int p3), .val (.int p4), .val (.int u0), .val (.int u1), .val (.int nl), .val (.int el), .val (.int x0), .val (.int x1), .val (.int l0), .val (.int l1), .val (.int ll), .unset, .unset, .unset, .unset, .unset, .unset, .unset, .unset, .unset, .unset] [(.int ((((p3.toUInt32 >>> ((19 : Int32) &&& 31).toUInt32).toInt32) &&& (3 : Int32)) % (3 : Int32)))])) _
      exact k
  have bfl : fl = (0 : Int32) ∨ fl = (1 : Int32) ∨ fl = (2 : Int32) := by rw [hfl]; split; assumption; exact own_len3 _
  refine own_go (B := s₁.setTop (mkF m 159 #[.val (.int p1), .val (.int p2), .val (.int p3), .val (.int p4), .val (.int u0), .val (.int u1), .val (.int nl), .val (.int el), .val (.int x0), .val (.int x1), .val (.int l0), .val (.int l1), .val (.int ll), .val (.int fl), .unset, .unset, .unset, .unset, .unset, .unset, .unset, .unset, .unset] [(.int (((p3.toUInt32 >>> ((21 : Int32) &&& 31).toUInt32).toInt32) &&& (1 : Int32))), (.int l0)])) (fun t k => ?_) ?_
  · show Steps p.tables e below (s₁.setTop (mkF m 149 #[.val (.int p1), .val (.int p2), .val (.int p3), .val (.int p4), .val (.int u0), .val (.int u1), .val (.int nl), .val (.int el), .val (.int x0), .val (.int x1), .val (.int l0), .val (.int l1), .val (.int ll), .unset, .unset, .unset, .unset, .unset, .unset, .unset, .unset, .unset, .unset] [(.int fl)])) _
    refine XS.istore X0.here hx rfl (hb hby at_149) rfl (l' := #[.val (.int p1), .val (.int p2), .val (.int p3), .val (.int p4), .val (.int u0), .val (.int u1), .val (.int nl), .val (.int el), .val (.int x0), .val (.int x1), .val (.int l0), .val (.int l1), .val (.int ll), .val (.int fl), .unset, .unset, .unset, .unset, .unset, .unset, .unset, .unset, .unset]) rfl ?_
    show Steps p.tables e below (s₁.setTop (mkF m 151 #[.val (.int p1), .val (.int p2), .val (.int p3), .val (.int p4), .val (.int u0), .val (.int u1), .val (.int nl), .val (.int el), .val (.int x0), .val (.int x1), .val (.int l0), .val (.int l1), .val (.int ll), .val (.int fl), .unset, .unset, .unset, .unset, .unset, .unset, .unset, .unset, .unset] [])) _
    refine XS.iload X0.here hx rfl (hb hby at_151) rfl ?_
    show Steps p.tables e below (s₁.setTop (mkF m 153 #[.val (.int p1), .val (.int p2), .val (.int p3), .val (.int p4), .val (.int u0), .val (.int u1), .val (.int nl), .val (.int el), .val (.int x0), .val (.int x1), .val (.int l0), .val (.int l1), .val (.int ll), .val (.int fl), .unset, .unset, .unset, .unset, .unset, .unset, .unset, .unset, .unset] [(.int l0)])) _
    refine XS.iloadN X0.here hx rfl (hb hby at_153) rfl ?_
    show Steps p.tables e below (s₁.setTop (mkF m 154 #[.val (.int p1), .val (.int p2), .val (.int p3), .val (.int p4), .val (.int u0), .val (.int u1), .val (.int nl), .val (.int el), .val (.int x0), .val (.int x1), .val (.int l0), .val (.int l1), .val (.int ll), .val (.int fl), .unset, .unset, .unset, .unset, .unset, .unset, .unset, .unset, .unset] [(.int p3), (.int l0)])) _
    refine XS.bipush X0.here hx rfl (hb hby at_154) ?_
    show Steps p.tables e below (s₁.setTop (mkF m 156 #[.val (.int p1), .val (.int p2), .val (.int p3), .val (.int p4), .val (.int u0), .val (.int u1), .val (.int nl), .val (.int el), .val (.int x0), .val (.int x1), .val (.int l0), .val (.int l1), .val (.int ll), .val (.int fl), .unset, .unset, .unset, .unset, .unset, .unset, .unset, .unset, .unset] [(.int (21 : Int32)), (.int p3), (.int l0)])) _
    refine XS.iushr X0.here hx rfl (hb hby at_156) rfl ?_
    show Steps p.tables e below (s₁.setTop (mkF m 157 #[.val (.int p1), .val (.int p2), .val (.int p3), .val (.int p4), .val (.int u0), .val (.int u1), .val (.int nl), .val (.int el), .val (.int x0), .val (.int x1), .val (.int l0), .val (.int l1), .val (.int ll), .val (.int fl), .unset, .unset, .unset, .unset, .unset, .unset, .unset, .unset, .unset] [(.int ((p3.toUInt32 >>> ((21 : Int32) &&& 31).toUInt32).toInt32)), (.int l0)])) _
    refine XS.iconst X0.here hx rfl (hb hby at_157) ?_
    show Steps p.tables e below (s₁.setTop (mkF m 158 #[.val (.int p1), .val (.int p2), .val (.int p3), .val (.int p4), .val (.int u0), .val (.int u1), .val (.int nl), .val (.int el), .val (.int x0), .val (.int x1), .val (.int l0), .val (.int l1), .val (.int ll), .val (.int fl), .unset, .unset, .unset, .unset, .unset, .unset, .unset, .unset, .unset] [(.int (1 : Int32)), (.int ((p3.toUInt32 >>> ((21 : Int32) &&& 31).toUInt32).toInt32)), (.int l0)])) _
    refine XS.iand X0.here hx rfl (hb hby at_158) rfl ?_
    show Steps p.tables e below (s₁.setTop (mkF m 159 #[.val (.int p1), .val (.int p2), .val (.int p3), .val (.int p4), .val (.int u0), .val (.int u1), .val (.int nl), .val (.int el), .val (.int x0), .val (.int x1), .val (.int l0), .val (.int l1), .val (.int ll), .val (.int fl), .unset, .unset, .unset, .unset, .unset, .unset, .unset, .unset, .unset] [(.int (((p3.toUInt32 >>> ((21 : Int32) &&& 31).toUInt32).toInt32) &&& (1 : Int32))), (.int l0)])) _
    exact k
  obtain ⟨m2, hm2⟩ : ∃ z : Int32, z = (if (((p3.toUInt32 >>> ((21 : Int32) &&& 31).toUInt32).toInt32) &&& (1 : Int32)) = (0 : Int32) then (0 : Int32) else (p4 &&& (255 : Int32))) := ⟨_, rfl⟩
  refine own_go (B := s₁.setTop (mkF m 171 #[.val (.int p1), .val (.int p2), .val (.int p3), .val (.int p4), .val (.int u0), .val (.int u1), .val (.int nl), .val (.int el), .val (.int x0), .val (.int x1), .val (.int l0), .val (.int l1), .val (.int ll), .val (.int fl), .unset, .unset, .unset, .unset, .unset, .unset, .unset, .unset, .unset] [(.int m2), (.int l0)])) (fun t k => ?_) ?_
  · skip
    show Steps p.tables e below (s₁.setTop (mkF m 159 #[.val (.int p1), .val (.int p2), .val (.int p3), .val (.int p4), .val (.int u0), .val (.int u1), .val (.int nl), .val (.int el), .val (.int x0), .val (.int x1), .val (.int l0), .val (.int l1), .val (.int ll), .val (.int fl), .unset, .unset, .unset, .unset, .unset, .unset, .unset, .unset, .unset] [(.int (((p3.toUInt32 >>> ((21 : Int32) &&& 31).toUInt32).toInt32) &&& (1 : Int32))), (.int l0)])) _
    by_cases hm159 : (((p3.toUInt32 >>> ((21 : Int32) &&& 31).toUInt32).toInt32) &&& (1 : Int32)) = (0 : Int32)
    · skip
      simp only [if_pos hm159] at hm2
      rw [hm2] at k
      show Steps p.tables e below (s₁.setTop (mkF m 159 #[.val (.int p1), .val (.int p2), .val (.int p3), .val (.int p4), .val (.int u0), .val (.int u1), .val (.int nl), .val (.int el), .val (.int x0), .val (.int x1), .val (.int l0), .val (.int l1), .val (.int ll), .val (.int fl), .unset, .unset, .unset, .unset, .unset, .unset, .unset, .unset, .unset] [(.int (((p3.toUInt32 >>> ((21 : Int32) &&& 31).toUInt32).toInt32) &&& (1 : Int32))), (.int l0)])) _
      refine XS.ifYes X0.here hx rfl (pc0 := 159) (pc' := 170) rfl (hb hby at_159) rfl ((if0 _ _).trans (teq hm159).1) (by decide) (by decide) ?_
      show Steps p.tables e below (s₁.setTop (mkF m 170 #[.val (.int p1), .val (.int p2), .val (.int p3), .val (.int p4), .val (.int u0), .val (.int u1), .val (.int nl), .val (.int el), .val (.int x0), .val (.int x1), .val (.int l0), .val (.int l1), .val (.int ll), .val (.int fl), .unset, .unset, .unset, .unset, .unset, .unset, .unset, .unset, .unset] [(.int l0)])) _
      refine XS.iconst X0.here hx rfl (hb hby at_170) ?_
      show Steps p.tables e below (s₁.setTop (mkF m 171 #[.val (.int p1), .val (.int p2), .val (.int p3), .val (.int p4), .val (.int u0), .val (.int u1), .val (.int nl), .val (.int el), .val (.int x0), .val (.int x1), .val (.int l0), .val (.int l1), .val (.int ll), .val (.int fl), .unset, .unset, .unset, .unset, .unset, .unset, .unset, .unset, .unset] [(.int (0 : Int32)), (.int l0)])) _
      exact k
    · skip
      simp only [if_neg hm159] at hm2
      rw [hm2] at k
      show Steps p.tables e below (s₁.setTop (mkF m 159 #[.val (.int p1), .val (.int p2), .val (.int p3), .val (.int p4), .val (.int u0), .val (.int u1), .val (.int nl), .val (.int el), .val (.int x0), .val (.int x1), .val (.int l0), .val (.int l1), .val (.int ll), .val (.int fl), .unset, .unset, .unset, .unset, .unset, .unset, .unset, .unset, .unset] [(.int (((p3.toUInt32 >>> ((21 : Int32) &&& 31).toUInt32).toInt32) &&& (1 : Int32))), (.int l0)])) _
      refine XS.ifNo X0.here hx rfl (hb hby at_159) rfl ((if0 _ _).trans (feq hm159).1) ?_
      show Steps p.tables e below (s₁.setTop (mkF m 162 #[.val (.int p1), .val (.int p2), .val (.int p3), .val (.int p4), .val (.int u0), .val (.int u1), .val (.int nl), .val (.int el), .val (.int x0), .val (.int x1), .val (.int l0), .val (.int l1), .val (.int ll), .val (.int fl), .unset, .unset, .unset, .unset, .unset, .unset, .unset, .unset, .unset] [(.int l0)])) _
      refine XS.iloadN X0.here hx rfl (hb hby at_162) rfl ?_
      show Steps p.tables e below (s₁.setTop (mkF m 163 #[.val (.int p1), .val (.int p2), .val (.int p3), .val (.int p4), .val (.int u0), .val (.int u1), .val (.int nl), .val (.int el), .val (.int x0), .val (.int x1), .val (.int l0), .val (.int l1), .val (.int ll), .val (.int fl), .unset, .unset, .unset, .unset, .unset, .unset, .unset, .unset, .unset] [(.int p4), (.int l0)])) _
      refine XS.sipush X0.here hx rfl (hb hby at_163) ?_
      show Steps p.tables e below (s₁.setTop (mkF m 166 #[.val (.int p1), .val (.int p2), .val (.int p3), .val (.int p4), .val (.int u0), .val (.int u1), .val (.int nl), .val (.int el), .val (.int x0), .val (.int x1), .val (.int l0), .val (.int l1), .val (.int ll), .val (.int fl), .unset, .unset, .unset, .unset, .unset, .unset, .unset, .unset, .unset] [(.int (255 : Int32)), (.int p4), (.int l0)])) _
      refine XS.iand X0.here hx rfl (hb hby at_166) rfl ?_
      show Steps p.tables e below (s₁.setTop (mkF m 167 #[.val (.int p1), .val (.int p2), .val (.int p3), .val (.int p4), .val (.int u0), .val (.int u1), .val (.int nl), .val (.int el), .val (.int x0), .val (.int x1), .val (.int l0), .val (.int l1), .val (.int ll), .val (.int fl), .unset, .unset, .unset, .unset, .unset, .unset, .unset, .unset, .unset] [(.int (p4 &&& (255 : Int32))), (.int l0)])) _
      refine XS.goto X0.here hx rfl (pc0 := 167) (pc' := 171) rfl (hb hby at_167) (by decide) (by decide) ?_
      show Steps p.tables e below (s₁.setTop (mkF m 171 #[.val (.int p1), .val (.int p2), .val (.int p3), .val (.int p4), .val (.int u0), .val (.int u1), .val (.int nl), .val (.int el), .val (.int x0), .val (.int x1), .val (.int l0), .val (.int l1), .val (.int ll), .val (.int fl), .unset, .unset, .unset, .unset, .unset, .unset, .unset, .unset, .unset] [(.int (p4 &&& (255 : Int32))), (.int l0)])) _
      exact k
  refine own_go (B := s₁.setTop (mkF m 174 #[.val (.int p1), .val (.int p2), .val (.int p3), .val (.int p4), .val (.int u0), .val (.int u1), .val (.int nl), .val (.int el), .val (.int x0), .val (.int x1), .val (.int l0), .val (.int l1), .val (.int ll), .val (.int fl), .val (.int (l0 ^^^ m2)), .unset, .unset, .unset, .unset, .unset, .unset, .unset, .unset] [])) (fun t k => ?_) ?_
  · show Steps p.tables e below (s₁.setTop (mkF m 171 #[.val (.int p1), .val (.int p2), .val (.int p3), .val (.int p4), .val (.int u0), .val (.int u1), .val (.int nl), .val (.int el), .val (.int x0), .val (.int x1), .val (.int l0), .val (.int l1), .val (.int ll), .val (.int fl), .unset, .unset, .unset, .unset, .unset, .unset, .unset, .unset, .unset] [(.int m2), (.int l0)])) _
    refine XS.ixor X0.here hx rfl (hb hby at_171) rfl ?_
    show Steps p.tables e below (s₁.setTop (mkF m 172 #[.val (.int p1), .val (.int p2), .val (.int p3), .val (.int p4), .val (.int u0), .val (.int u1), .val (.int nl), .val (.int el), .val (.int x0), .val (.int x1), .val (.int l0), .val (.int l1), .val (.int ll), .val (.int fl), .unset, .unset, .unset, .unset, .unset, .unset, .unset, .unset, .unset] [(.int (l0 ^^^ m2))])) _
    refine XS.istore X0.here hx rfl (hb hby at_172) rfl (l' := #[.val (.int p1), .val (.int p2), .val (.int p3), .val (.int p4), .val (.int u0), .val (.int u1), .val (.int nl), .val (.int el), .val (.int x0), .val (.int x1), .val (.int l0), .val (.int l1), .val (.int ll), .val (.int fl), .val (.int (l0 ^^^ m2)), .unset, .unset, .unset, .unset, .unset, .unset, .unset, .unset]) rfl ?_
    show Steps p.tables e below (s₁.setTop (mkF m 174 #[.val (.int p1), .val (.int p2), .val (.int p3), .val (.int p4), .val (.int u0), .val (.int u1), .val (.int nl), .val (.int el), .val (.int x0), .val (.int x1), .val (.int l0), .val (.int l1), .val (.int ll), .val (.int fl), .val (.int (l0 ^^^ m2)), .unset, .unset, .unset, .unset, .unset, .unset, .unset, .unset] [])) _
    exact k
  obtain ⟨y0, hy0⟩ : ∃ z : Int32, z = (l0 ^^^ m2) := ⟨_, rfl⟩
  rw [← hy0]
  have by0 : ¬ y0 < 0 ∧ ¬ (255 : Int32) < y0 := by rw [hy0, hl0, hm2]; split; exact own_xor0 _; exact own_xor255 _ _
  refine own_go (B := s₁.setTop (mkF m 182 #[.val (.int p1), .val (.int p2), .val (.int p3), .val (.int p4), .val (.int u0), .val (.int u1), .val (.int nl), .val (.int el), .val (.int x0), .val (.int x1), .val (.int l0), .val (.int l1), .val (.int ll), .val (.int fl), .val (.int y0), .unset, .unset, .unset, .unset, .unset, .unset, .unset, .unset] [(.int (((p3.toUInt32 >>> ((22 : Int32) &&& 31).toUInt32).toInt32) &&& (1 : Int32))), (.int l1)])) (fun t k => ?_) ?_
  · show Steps p.tables e below (s₁.setTop (mkF m 174 #[.val (.int p1), .val (.int p2), .val (.int p3), .val (.int p4), .val (.int u0), .val (.int u1), .val (.int nl), .val (.int el), .val (.int x0), .val (.int x1), .val (.int l0), .val (.int l1), .val (.int ll), .val (.int fl), .val (.int y0), .unset, .unset, .unset, .unset, .unset, .unset, .unset, .unset] [])) _
    refine XS.iload X0.here hx rfl (hb hby at_174) rfl ?_
    show Steps p.tables e below (s₁.setTop (mkF m 176 #[.val (.int p1), .val (.int p2), .val (.int p3), .val (.int p4), .val (.int u0), .val (.int u1), .val (.int nl), .val (.int el), .val (.int x0), .val (.int x1), .val (.int l0), .val (.int l1), .val (.int ll), .val (.int fl), .val (.int y0), .unset, .unset, .unset, .unset, .unset, .unset, .unset, .unset] [(.int l1)])) _
    refine XS.iloadN X0.here hx rfl (hb hby at_176) rfl ?_
    show Steps p.tables e below (s₁.setTop (mkF m 177 #[.val (.int p1), .val (.int p2), .val (.int p3), .val (.int p4), .val (.int u0), .val (.int u1), .val (.int nl), .val (.int el), .val (.int x0), .val (.int x1), .val (.int l0), .val (.int l1), .val (.int ll), .val (.int fl), .val (.int y0), .unset, .unset, .unset, .unset, .unset, .unset, .unset, .unset] [(.int p3), (.int l1)])) _
    refine XS.bipush X0.here hx rfl (hb hby at_177) ?_
    show Steps p.tables e below (s₁.setTop (mkF m 179 #[.val (.int p1), .val (.int p2), .val (.int p3), .val (.int p4), .val (.int u0), .val (.int u1), .val (.int nl), .val (.int el), .val (.int x0), .val (.int x1), .val (.int l0), .val (.int l1), .val (.int ll), .val (.int fl), .val (.int y0), .unset, .unset, .unset, .unset, .unset, .unset, .unset, .unset] [(.int (22 : Int32)), (.int p3), (.int l1)])) _
    refine XS.iushr X0.here hx rfl (hb hby at_179) rfl ?_
    show Steps p.tables e below (s₁.setTop (mkF m 180 #[.val (.int p1), .val (.int p2), .val (.int p3), .val (.int p4), .val (.int u0), .val (.int u1), .val (.int nl), .val (.int el), .val (.int x0), .val (.int x1), .val (.int l0), .val (.int l1), .val (.int ll), .val (.int fl), .val (.int y0), .unset, .unset, .unset, .unset, .unset, .unset, .unset, .unset] [(.int ((p3.toUInt32 >>> ((22 : Int32) &&& 31).toUInt32).toInt32)), (.int l1)])) _
    refine XS.iconst X0.here hx rfl (hb hby at_180) ?_
    show Steps p.tables e below (s₁.setTop (mkF m 181 #[.val (.int p1), .val (.int p2), .val (.int p3), .val (.int p4), .val (.int u0), .val (.int u1), .val (.int nl), .val (.int el), .val (.int x0), .val (.int x1), .val (.int l0), .val (.int l1), .val (.int ll), .val (.int fl), .val (.int y0), .unset, .unset, .unset, .unset, .unset, .unset, .unset, .unset] [(.int (1 : Int32)), (.int ((p3.toUInt32 >>> ((22 : Int32) &&& 31).toUInt32).toInt32)), (.int l1)])) _
    refine XS.iand X0.here hx rfl (hb hby at_181) rfl ?_
    show Steps p.tables e below (s₁.setTop (mkF m 182 #[.val (.int p1), .val (.int p2), .val (.int p3), .val (.int p4), .val (.int u0), .val (.int u1), .val (.int nl), .val (.int el), .val (.int x0), .val (.int x1), .val (.int l0), .val (.int l1), .val (.int ll), .val (.int fl), .val (.int y0), .unset, .unset, .unset, .unset, .unset, .unset, .unset, .unset] [(.int (((p3.toUInt32 >>> ((22 : Int32) &&& 31).toUInt32).toInt32) &&& (1 : Int32))), (.int l1)])) _
    exact k
  obtain ⟨m3, hm3⟩ : ∃ z : Int32, z = (if (((p3.toUInt32 >>> ((22 : Int32) &&& 31).toUInt32).toInt32) &&& (1 : Int32)) = (0 : Int32) then (0 : Int32) else (((p4.toUInt32 >>> ((8 : Int32) &&& 31).toUInt32).toInt32) &&& (255 : Int32))) := ⟨_, rfl⟩
  refine own_go (B := s₁.setTop (mkF m 197 #[.val (.int p1), .val (.int p2), .val (.int p3), .val (.int p4), .val (.int u0), .val (.int u1), .val (.int nl), .val (.int el), .val (.int x0), .val (.int x1), .val (.int l0), .val (.int l1), .val (.int ll), .val (.int fl), .val (.int y0), .unset, .unset, .unset, .unset, .unset, .unset, .unset, .unset] [(.int m3), (.int l1)])) (fun t k => ?_) ?_
  · skip
    show Steps p.tables e below (s₁.setTop (mkF m 182 #[.val (.int p1), .val (.int p2), .val (.int p3), .val (.int p4), .val (.int u0), .val (.int u1), .val (.int nl), .val (.int el), .val (.int x0), .val (.int x1), .val (.int l0), .val (.int l1), .val (.int ll), .val (.int fl), .val (.int y0), .unset, .unset, .unset, .unset, .unset, .unset, .unset, .unset] [(.int (((p3.toUInt32 >>> ((22 : Int32) &&& 31).toUInt32).toInt32) &&& (1 : Int32))), (.int l1)])) _
    by_cases hm182 : (((p3.toUInt32 >>> ((22 : Int32) &&& 31).toUInt32).toInt32) &&& (1 : Int32)) = (0 : Int32)
    · skip
      simp only [if_pos hm182] at hm3
      rw [hm3] at k
      show Steps p.tables e below (s₁.setTop (mkF m 182 #[.val (.int p1), .val (.int p2), .val (.int p3), .val (.int p4), .val (.int u0), .val (.int u1), .val (.int nl), .val (.int el), .val (.int x0), .val (.int x1), .val (.int l0), .val (.int l1), .val (.int ll), .val (.int fl), .val (.int y0), .unset, .unset, .unset, .unset, .unset, .unset, .unset, .unset] [(.int (((p3.toUInt32 >>> ((22 : Int32) &&& 31).toUInt32).toInt32) &&& (1 : Int32))), (.int l1)])) _
      refine XS.ifYes X0.here hx rfl (pc0 := 182) (pc' := 196) rfl (hb hby at_182) rfl ((if0 _ _).trans (teq hm182).1) (by decide) (by decide) ?_
      show Steps p.tables e below (s₁.setTop (mkF m 196 #[.val (.int p1), .val (.int p2), .val (.int p3), .val (.int p4), .val (.int u0), .val (.int u1), .val (.int nl), .val (.int el), .val (.int x0), .val (.int x1), .val (.int l0), .val (.int l1), .val (.int ll), .val (.int fl), .val (.int y0), .unset, .unset, .unset, .unset, .unset, .unset, .unset, .unset] [(.int l1)])) _
      refine XS.iconst X0.here hx rfl (hb hby at_196) ?_
      show Steps p.tables e below (s₁.setTop (mkF m 197 #[.val (.int p1), .val (.int p2), .val (.int p3), .val (.int p4), .val (.int u0), .val (.int u1), .val (.int nl), .val (.int el), .val (.int x0), .val (.int x1), .val (.int l0), .val (.int l1), .val (.int ll), .val (.int fl), .val (.int y0), .unset, .unset, .unset, .unset, .unset, .unset, .unset, .unset] [(.int (0 : Int32)), (.int l1)])) _
      exact k
    · skip
      simp only [if_neg hm182] at hm3
      rw [hm3] at k
      show Steps p.tables e below (s₁.setTop (mkF m 182 #[.val (.int p1), .val (.int p2), .val (.int p3), .val (.int p4), .val (.int u0), .val (.int u1), .val (.int nl), .val (.int el), .val (.int x0), .val (.int x1), .val (.int l0), .val (.int l1), .val (.int ll), .val (.int fl), .val (.int y0), .unset, .unset, .unset, .unset, .unset, .unset, .unset, .unset] [(.int (((p3.toUInt32 >>> ((22 : Int32) &&& 31).toUInt32).toInt32) &&& (1 : Int32))), (.int l1)])) _
      refine XS.ifNo X0.here hx rfl (hb hby at_182) rfl ((if0 _ _).trans (feq hm182).1) ?_
      show Steps p.tables e below (s₁.setTop (mkF m 185 #[.val (.int p1), .val (.int p2), .val (.int p3), .val (.int p4), .val (.int u0), .val (.int u1), .val (.int nl), .val (.int el), .val (.int x0), .val (.int x1), .val (.int l0), .val (.int l1), .val (.int ll), .val (.int fl), .val (.int y0), .unset, .unset, .unset, .unset, .unset, .unset, .unset, .unset] [(.int l1)])) _
      refine XS.iloadN X0.here hx rfl (hb hby at_185) rfl ?_
      show Steps p.tables e below (s₁.setTop (mkF m 186 #[.val (.int p1), .val (.int p2), .val (.int p3), .val (.int p4), .val (.int u0), .val (.int u1), .val (.int nl), .val (.int el), .val (.int x0), .val (.int x1), .val (.int l0), .val (.int l1), .val (.int ll), .val (.int fl), .val (.int y0), .unset, .unset, .unset, .unset, .unset, .unset, .unset, .unset] [(.int p4), (.int l1)])) _
      refine XS.bipush X0.here hx rfl (hb hby at_186) ?_
      show Steps p.tables e below (s₁.setTop (mkF m 188 #[.val (.int p1), .val (.int p2), .val (.int p3), .val (.int p4), .val (.int u0), .val (.int u1), .val (.int nl), .val (.int el), .val (.int x0), .val (.int x1), .val (.int l0), .val (.int l1), .val (.int ll), .val (.int fl), .val (.int y0), .unset, .unset, .unset, .unset, .unset, .unset, .unset, .unset] [(.int (8 : Int32)), (.int p4), (.int l1)])) _
      refine XS.iushr X0.here hx rfl (hb hby at_188) rfl ?_
      show Steps p.tables e below (s₁.setTop (mkF m 189 #[.val (.int p1), .val (.int p2), .val (.int p3), .val (.int p4), .val (.int u0), .val (.int u1), .val (.int nl), .val (.int el), .val (.int x0), .val (.int x1), .val (.int l0), .val (.int l1), .val (.int ll), .val (.int fl), .val (.int y0), .unset, .unset, .unset, .unset, .unset, .unset, .unset, .unset] [(.int ((p4.toUInt32 >>> ((8 : Int32) &&& 31).toUInt32).toInt32)), (.int l1)])) _
      refine XS.sipush X0.here hx rfl (hb hby at_189) ?_
      show Steps p.tables e below (s₁.setTop (mkF m 192 #[.val (.int p1), .val (.int p2), .val (.int p3), .val (.int p4), .val (.int u0), .val (.int u1), .val (.int nl), .val (.int el), .val (.int x0), .val (.int x1), .val (.int l0), .val (.int l1), .val (.int ll), .val (.int fl), .val (.int y0), .unset, .unset, .unset, .unset, .unset, .unset, .unset, .unset] [(.int (255 : Int32)), (.int ((p4.toUInt32 >>> ((8 : Int32) &&& 31).toUInt32).toInt32)), (.int l1)])) _
      refine XS.iand X0.here hx rfl (hb hby at_192) rfl ?_
      show Steps p.tables e below (s₁.setTop (mkF m 193 #[.val (.int p1), .val (.int p2), .val (.int p3), .val (.int p4), .val (.int u0), .val (.int u1), .val (.int nl), .val (.int el), .val (.int x0), .val (.int x1), .val (.int l0), .val (.int l1), .val (.int ll), .val (.int fl), .val (.int y0), .unset, .unset, .unset, .unset, .unset, .unset, .unset, .unset] [(.int (((p4.toUInt32 >>> ((8 : Int32) &&& 31).toUInt32).toInt32) &&& (255 : Int32))), (.int l1)])) _
      refine XS.goto X0.here hx rfl (pc0 := 193) (pc' := 197) rfl (hb hby at_193) (by decide) (by decide) ?_
      show Steps p.tables e below (s₁.setTop (mkF m 197 #[.val (.int p1), .val (.int p2), .val (.int p3), .val (.int p4), .val (.int u0), .val (.int u1), .val (.int nl), .val (.int el), .val (.int x0), .val (.int x1), .val (.int l0), .val (.int l1), .val (.int ll), .val (.int fl), .val (.int y0), .unset, .unset, .unset, .unset, .unset, .unset, .unset, .unset] [(.int (((p4.toUInt32 >>> ((8 : Int32) &&& 31).toUInt32).toInt32) &&& (255 : Int32))), (.int l1)])) _
      exact k
  refine own_go (B := s₁.setTop (mkF m 200 #[.val (.int p1), .val (.int p2), .val (.int p3), .val (.int p4), .val (.int u0), .val (.int u1), .val (.int nl), .val (.int el), .val (.int x0), .val (.int x1), .val (.int l0), .val (.int l1), .val (.int ll), .val (.int fl), .val (.int y0), .val (.int (l1 ^^^ m3)), .unset, .unset, .unset, .unset, .unset, .unset, .unset] [])) (fun t k => ?_) ?_
  · show Steps p.tables e below (s₁.setTop (mkF m 197 #[.val (.int p1), .val (.int p2), .val (.int p3), .val (.int p4), .val (.int u0), .val (.int u1), .val (.int nl), .val (.int el), .val (.int x0), .val (.int x1), .val (.int l0), .val (.int l1), .val (.int ll), .val (.int fl), .val (.int y0), .unset, .unset, .unset, .unset, .unset, .unset, .unset, .unset] [(.int m3), (.int l1)])) _
    refine XS.ixor X0.here hx rfl (hb hby at_197) rfl ?_
    show Steps p.tables e below (s₁.setTop (mkF m 198 #[.val (.int p1), .val (.int p2), .val (.int p3), .val (.int p4), .val (.int u0), .val (.int u1), .val (.int nl), .val (.int el), .val (.int x0), .val (.int x1), .val (.int l0), .val (.int l1), .val (.int ll), .val (.int fl), .val (.int y0), .unset, .unset, .unset, .unset, .unset, .unset, .unset, .unset] [(.int (l1 ^^^ m3))])) _
    refine XS.istore X0.here hx rfl (hb hby at_198) rfl (l' := #[.val (.int p1), .val (.int p2), .val (.int p3), .val (.int p4), .val (.int u0), .val (.int u1), .val (.int nl), .val (.int el), .val (.int x0), .val (.int x1), .val (.int l0), .val (.int l1), .val (.int ll), .val (.int fl), .val (.int y0), .val (.int (l1 ^^^ m3)), .unset, .unset, .unset, .unset, .unset, .unset, .unset]) rfl ?_
    show Steps p.tables e below (s₁.setTop (mkF m 200 #[.val (.int p1), .val (.int p2), .val (.int p3), .val (.int p4), .val (.int u0), .val (.int u1), .val (.int nl), .val (.int el), .val (.int x0), .val (.int x1), .val (.int l0), .val (.int l1), .val (.int ll), .val (.int fl), .val (.int y0), .val (.int (l1 ^^^ m3)), .unset, .unset, .unset, .unset, .unset, .unset, .unset] [])) _
    exact k
  obtain ⟨y1, hy1⟩ : ∃ z : Int32, z = (l1 ^^^ m3) := ⟨_, rfl⟩
  rw [← hy1]
  have by1 : ¬ y1 < 0 ∧ ¬ (255 : Int32) < y1 := by rw [hy1, hl1, hm3]; split; exact own_xor0 _; exact own_xor255 _ _
  refine own_go (B := s₁.setTop (mkF m 206 #[.val (.int p1), .val (.int p2), .val (.int p3), .val (.int p4), .val (.int u0), .val (.int u1), .val (.int nl), .val (.int el), .val (.int x0), .val (.int x1), .val (.int l0), .val (.int l1), .val (.int ll), .val (.int fl), .val (.int y0), .val (.int y1), .unset, .unset, .unset, .unset, .unset, .unset, .unset] [(.int nl), (.int u1), (.int u0)])) (fun t k => ?_) ?_
  · show Steps p.tables e below (s₁.setTop (mkF m 200 #[.val (.int p1), .val (.int p2), .val (.int p3), .val (.int p4), .val (.int u0), .val (.int u1), .val (.int nl), .val (.int el), .val (.int x0), .val (.int x1), .val (.int l0), .val (.int l1), .val (.int ll), .val (.int fl), .val (.int y0), .val (.int y1), .unset, .unset, .unset, .unset, .unset, .unset, .unset] [])) _
    refine XS.iload X0.here hx rfl (hb hby at_200) rfl ?_
    show Steps p.tables e below (s₁.setTop (mkF m 202 #[.val (.int p1), .val (.int p2), .val (.int p3), .val (.int p4), .val (.int u0), .val (.int u1), .val (.int nl), .val (.int el), .val (.int x0), .val (.int x1), .val (.int l0), .val (.int l1), .val (.int ll), .val (.int fl), .val (.int y0), .val (.int y1), .unset, .unset, .unset, .unset, .unset, .unset, .unset] [(.int u0)])) _
    refine XS.iload X0.here hx rfl (hb hby at_202) rfl ?_
    show Steps p.tables e below (s₁.setTop (mkF m 204 #[.val (.int p1), .val (.int p2), .val (.int p3), .val (.int p4), .val (.int u0), .val (.int u1), .val (.int nl), .val (.int el), .val (.int x0), .val (.int x1), .val (.int l0), .val (.int l1), .val (.int ll), .val (.int fl), .val (.int y0), .val (.int y1), .unset, .unset, .unset, .unset, .unset, .unset, .unset] [(.int u1), (.int u0)])) _
    refine XS.iload X0.here hx rfl (hb hby at_204) rfl ?_
    show Steps p.tables e below (s₁.setTop (mkF m 206 #[.val (.int p1), .val (.int p2), .val (.int p3), .val (.int p4), .val (.int u0), .val (.int u1), .val (.int nl), .val (.int el), .val (.int x0), .val (.int x1), .val (.int l0), .val (.int l1), .val (.int ll), .val (.int fl), .val (.int y0), .val (.int y1), .unset, .unset, .unset, .unset, .unset, .unset, .unset] [(.int nl), (.int u1), (.int u0)])) _
    exact k
  -- pc 206: org/bindery/DocumentElementIsPinLaw.str
  obtain ⟨_, _, ⟨T1, L1, k1, n1⟩, -, X1, hSq1, hgq1, ⟨Lc1, hQ1, l1, y1, z1⟩, st1⟩ := callSS X0 hx (y := (⟨"org/bindery/DocumentElementIsPinLaw", "str", "(III)Ljava/lang/String;"⟩ : MethodName)) hown (mvT hZ (hw _ (List.mem_of_getElem? (i := 0) rfl))) (mvT hZ (hw _ (List.mem_of_getElem? (i := 1) rfl))) (mvT hZ (hw _ (List.mem_of_getElem? (i := 2) rfl))) (mvT hZ (hw _ (List.mem_of_getElem? (i := 3) rfl))) (by decide) (own_backOfE (W := 0) (rmStr l Z a0 hw [] u0 u1 nl zc h0 n0 O S_C hcs hcH hcw bu0 bu1) hZ (hw _ (List.mem_of_getElem? (i := 3) rfl)) (hw _ (List.mem_of_getElem? (i := 2) rfl)) (by decide) (by decide)) (g := (mkF m 206 #[.val (.int p1), .val (.int p2), .val (.int p3), .val (.int p4), .val (.int u0), .val (.int u1), .val (.int nl), .val (.int el), .val (.int x0), .val (.int x1), .val (.int l0), .val (.int l1), .val (.int ll), .val (.int fl), .val (.int y0), .val (.int y1), .unset, .unset, .unset, .unset, .unset, .unset, .unset] [(.int nl), (.int u1), (.int u0)])) rfl (by rw [hml]; rfl) (argsL := [(.int u0), (.int u1), (.int nl)]) (rest := []) (lenOf pd_4 rfl) rfl (by show 2 * 0 + _ ≤ _; exact Nat.le_of_eq rfl) (hb hby at_206) (fun _ hWm => ⟨rfl, e0, (by decide : 0 + 4 ≤ _), (by decide : 0 + 8 ≤ _), Em.warm M hWm⟩)
  dsimp only [Pt.U, Pt.locs, Pt.cells, Pt.slots] at X1 l1 y1 z1 st1 hQ1 hSq1 hgq1
  subst l1 y1 z1
  obtain ⟨X1, hS, hZ, hown⟩ := rebS hS (by rw [e0]; exact hk) X1 hSq1 hgq1 hZ hown
  obtain ⟨⟨r1, t1, k1, cs1, rfl, Nq1, Kq1, fq1_r, Gq1_0, Gq1_1, Gq1_2, Gq1_3, cq1_0, cq1_1, cq1_2⟩, M⟩ := hQ1
  replace N := Fr.app N Nq1
  have g_r1 : n0 ≤ r1 := Nat.le_trans (own_oldsz O) fq1_r
  have m_r1_1 : h0.size ≤ r1 := Nat.le_trans KM.1 fq1_r
  replace O := O.keep Kq1 all0
  have hk : T1.heap.size ≤ T1.heap.size := Nat.le_refl _
  have KM : Keep T1.heap T1.heap [] := Keep.refl _ _
  refine own_go (B := T1.setTop (mkF m 209 #[.val (.int p1), .val (.int p2), .val (.int p3), .val (.int p4), .val (.int u0), .val (.int u1), .val (.int nl), .val (.int el), .val (.int x0), .val (.int x1), .val (.int l0), .val (.int l1), .val (.int ll), .val (.int fl), .val (.int y0), .val (.int y1), .unset, .unset, .unset, .unset, .unset, .unset, .unset] [(.ref r1)])) (fun t k => st1.trans k) ?_
  refine own_go (B := T1.setTop (mkF m 217 #[.val (.int p1), .val (.int p2), .val (.int p3), .val (.int p4), .val (.int u0), .val (.int u1), .val (.int nl), .val (.int el), .val (.int x0), .val (.int x1), .val (.int l0), .val (.int l1), .val (.int ll), .val (.int fl), .val (.int y0), .val (.int y1), .val (.ref r1), .unset, .unset, .unset, .unset, .unset, .unset] [(.int ll), (.int l1), (.int l0)])) (fun t k => ?_) ?_
  · show Steps p.tables e below (T1.setTop (mkF m 209 #[.val (.int p1), .val (.int p2), .val (.int p3), .val (.int p4), .val (.int u0), .val (.int u1), .val (.int nl), .val (.int el), .val (.int x0), .val (.int x1), .val (.int l0), .val (.int l1), .val (.int ll), .val (.int fl), .val (.int y0), .val (.int y1), .unset, .unset, .unset, .unset, .unset, .unset, .unset] [(.ref r1)])) _
    refine XS.astore X1.here hx rfl (hb hby at_209) rfl rfl (l' := #[.val (.int p1), .val (.int p2), .val (.int p3), .val (.int p4), .val (.int u0), .val (.int u1), .val (.int nl), .val (.int el), .val (.int x0), .val (.int x1), .val (.int l0), .val (.int l1), .val (.int ll), .val (.int fl), .val (.int y0), .val (.int y1), .val (.ref r1), .unset, .unset, .unset, .unset, .unset, .unset]) rfl ?_
    show Steps p.tables e below (T1.setTop (mkF m 211 #[.val (.int p1), .val (.int p2), .val (.int p3), .val (.int p4), .val (.int u0), .val (.int u1), .val (.int nl), .val (.int el), .val (.int x0), .val (.int x1), .val (.int l0), .val (.int l1), .val (.int ll), .val (.int fl), .val (.int y0), .val (.int y1), .val (.ref r1), .unset, .unset, .unset, .unset, .unset, .unset] [])) _
    refine XS.iload X1.here hx rfl (hb hby at_211) rfl ?_
    show Steps p.tables e below (T1.setTop (mkF m 213 #[.val (.int p1), .val (.int p2), .val (.int p3), .val (.int p4), .val (.int u0), .val (.int u1), .val (.int nl), .val (.int el), .val (.int x0), .val (.int x1), .val (.int l0), .val (.int l1), .val (.int ll), .val (.int fl), .val (.int y0), .val (.int y1), .val (.ref r1), .unset, .unset, .unset, .unset, .unset, .unset] [(.int l0)])) _
    refine XS.iload X1.here hx rfl (hb hby at_213) rfl ?_
    show Steps p.tables e below (T1.setTop (mkF m 215 #[.val (.int p1), .val (.int p2), .val (.int p3), .val (.int p4), .val (.int u0), .val (.int u1), .val (.int nl), .val (.int el), .val (.int x0), .val (.int x1), .val (.int l0), .val (.int l1), .val (.int ll), .val (.int fl), .val (.int y0), .val (.int y1), .val (.ref r1), .unset, .unset, .unset, .unset, .unset, .unset] [(.int l1), (.int l0)])) _
    refine XS.iload X1.here hx rfl (hb hby at_215) rfl ?_
    show Steps p.tables e below (T1.setTop (mkF m 217 #[.val (.int p1), .val (.int p2), .val (.int p3), .val (.int p4), .val (.int u0), .val (.int u1), .val (.int nl), .val (.int el), .val (.int x0), .val (.int x1), .val (.int l0), .val (.int l1), .val (.int ll), .val (.int fl), .val (.int y0), .val (.int y1), .val (.ref r1), .unset, .unset, .unset, .unset, .unset, .unset] [(.int ll), (.int l1), (.int l0)])) _
    exact k
  -- pc 217: org/bindery/DocumentElementIsPinLaw.str
  obtain ⟨_, _, ⟨T2, L2, k2, n2⟩, -, X2, hSq2, hgq2, ⟨Lc2, hQ2, l2, y2, z2⟩, st2⟩ := callSS X1 hx (y := (⟨"org/bindery/DocumentElementIsPinLaw", "str", "(III)Ljava/lang/String;"⟩ : MethodName)) hown (mvT hZ (hw _ (List.mem_of_getElem? (i := 0) rfl))) (mvT hZ (hw _ (List.mem_of_getElem? (i := 1) rfl))) (mvT hZ (hw _ (List.mem_of_getElem? (i := 2) rfl))) (mvT hZ (hw _ (List.mem_of_getElem? (i := 3) rfl))) (by decide) (own_backOfE (W := 0) (rmStr l Z a0 hw [] l0 l1 ll zc T1.heap n0 O S_C hcs hcH hcw bl0 bl1) hZ (hw _ (List.mem_of_getElem? (i := 3) rfl)) (hw _ (List.mem_of_getElem? (i := 2) rfl)) (by decide) (by decide)) (g := (mkF m 217 #[.val (.int p1), .val (.int p2), .val (.int p3), .val (.int p4), .val (.int u0), .val (.int u1), .val (.int nl), .val (.int el), .val (.int x0), .val (.int x1), .val (.int l0), .val (.int l1), .val (.int ll), .val (.int fl), .val (.int y0), .val (.int y1), .val (.ref r1), .unset, .unset, .unset, .unset, .unset, .unset] [(.int ll), (.int l1), (.int l0)])) rfl (by rw [hml]; rfl) (argsL := [(.int l0), (.int l1), (.int ll)]) (rest := []) (lenOf pd_4 rfl) rfl (by show 2 * 0 + _ ≤ _; exact Nat.le_of_eq rfl) (hb hby at_217) (fun _ hWm => ⟨rfl, rfl, (by decide : 4 + 4 ≤ _), (by decide : 8 + 8 ≤ _), Em.warm M hWm⟩)
  dsimp only [Pt.U, Pt.locs, Pt.cells, Pt.slots] at X2 l2 y2 z2 st2 hQ2 hSq2 hgq2
  subst l2 y2 z2
  obtain ⟨X2, hS, hZ, hown⟩ := rebS hS hk X2 hSq2 hgq2 hZ hown
  obtain ⟨⟨r2, t2, k2, cs2, rfl, Nq2, Kq2, fq2_r, Gq2_0, Gq2_1, Gq2_2, Gq2_3, cq2_0, cq2_1, cq2_2⟩, M⟩ := hQ2
  replace N := Fr.app N Nq2
  have lt_r1_r2 : r1 < r2 := Nat.lt_of_lt_of_le Gq1_0.lt fq2_r
  have lt_t1_r2 : t1 < r2 := Nat.lt_of_lt_of_le Gq1_3.lt fq2_r
  have g_r2 : n0 ≤ r2 := Nat.le_trans (own_oldsz O) fq2_r
  have m_r2_2 : T1.heap.size ≤ r2 := Nat.le_trans KM.1 fq2_r
  replace Gq1_0 := Gq1_0.keep Kq2
  replace Gq1_1 := Gq1_1.keep Kq2 nin0
  replace Gq1_2 := Gq1_2.keep Kq2 nin0
  replace Gq1_3 := Gq1_3.keep Kq2 nin0
  replace O := O.keep Kq2 all0
  have hk : T2.heap.size ≤ T2.heap.size := Nat.le_refl _
  have KM : Keep T2.heap T2.heap [] := Keep.refl _ _
  refine own_go (B := T2.setTop (mkF m 220 #[.val (.int p1), .val (.int p2), .val (.int p3), .val (.int p4), .val (.int u0), .val (.int u1), .val (.int nl), .val (.int el), .val (.int x0), .val (.int x1), .val (.int l0), .val (.int l1), .val (.int ll), .val (.int fl), .val (.int y0), .val (.int y1), .val (.ref r1), .unset, .unset, .unset, .unset, .unset, .unset] [(.ref r2)])) (fun t k => st2.trans k) ?_
  refine own_go (B := T2.setTop (mkF m 228 #[.val (.int p1), .val (.int p2), .val (.int p3), .val (.int p4), .val (.int u0), .val (.int u1), .val (.int nl), .val (.int el), .val (.int x0), .val (.int x1), .val (.int l0), .val (.int l1), .val (.int ll), .val (.int fl), .val (.int y0), .val (.int y1), .val (.ref r1), .val (.ref r2), .unset, .unset, .unset, .unset, .unset] [(.int el), (.int x1), (.int x0)])) (fun t k => ?_) ?_
  · show Steps p.tables e below (T2.setTop (mkF m 220 #[.val (.int p1), .val (.int p2), .val (.int p3), .val (.int p4), .val (.int u0), .val (.int u1), .val (.int nl), .val (.int el), .val (.int x0), .val (.int x1), .val (.int l0), .val (.int l1), .val (.int ll), .val (.int fl), .val (.int y0), .val (.int y1), .val (.ref r1), .unset, .unset, .unset, .unset, .unset, .unset] [(.ref r2)])) _
    refine XS.astore X2.here hx rfl (hb hby at_220) rfl rfl (l' := #[.val (.int p1), .val (.int p2), .val (.int p3), .val (.int p4), .val (.int u0), .val (.int u1), .val (.int nl), .val (.int el), .val (.int x0), .val (.int x1), .val (.int l0), .val (.int l1), .val (.int ll), .val (.int fl), .val (.int y0), .val (.int y1), .val (.ref r1), .val (.ref r2), .unset, .unset, .unset, .unset, .unset]) rfl ?_
    show Steps p.tables e below (T2.setTop (mkF m 222 #[.val (.int p1), .val (.int p2), .val (.int p3), .val (.int p4), .val (.int u0), .val (.int u1), .val (.int nl), .val (.int el), .val (.int x0), .val (.int x1), .val (.int l0), .val (.int l1), .val (.int ll), .val (.int fl), .val (.int y0), .val (.int y1), .val (.ref r1), .val (.ref r2), .unset, .unset, .unset, .unset, .unset] [])) _
    refine XS.iload X2.here hx rfl (hb hby at_222) rfl ?_
    show Steps p.tables e below (T2.setTop (mkF m 224 #[.val (.int p1), .val (.int p2), .val (.int p3), .val (.int p4), .val (.int u0), .val (.int u1), .val (.int nl), .val (.int el), .val (.int x0), .val (.int x1), .val (.int l0), .val (.int l1), .val (.int ll), .val (.int fl), .val (.int y0), .val (.int y1), .val (.ref r1), .val (.ref r2), .unset, .unset, .unset, .unset, .unset] [(.int x0)])) _
    refine XS.iload X2.here hx rfl (hb hby at_224) rfl ?_
    show Steps p.tables e below (T2.setTop (mkF m 226 #[.val (.int p1), .val (.int p2), .val (.int p3), .val (.int p4), .val (.int u0), .val (.int u1), .val (.int nl), .val (.int el), .val (.int x0), .val (.int x1), .val (.int l0), .val (.int l1), .val (.int ll), .val (.int fl), .val (.int y0), .val (.int y1), .val (.ref r1), .val (.ref r2), .unset, .unset, .unset, .unset, .unset] [(.int x1), (.int x0)])) _
    refine XS.iload X2.here hx rfl (hb hby at_226) rfl ?_
    show Steps p.tables e below (T2.setTop (mkF m 228 #[.val (.int p1), .val (.int p2), .val (.int p3), .val (.int p4), .val (.int u0), .val (.int u1), .val (.int nl), .val (.int el), .val (.int x0), .val (.int x1), .val (.int l0), .val (.int l1), .val (.int ll), .val (.int fl), .val (.int y0), .val (.int y1), .val (.ref r1), .val (.ref r2), .unset, .unset, .unset, .unset, .unset] [(.int el), (.int x1), (.int x0)])) _
    exact k
  -- pc 228: org/bindery/DocumentElementIsPinLaw.str
  obtain ⟨_, _, ⟨T3, L3, k3, n3⟩, -, X3, hSq3, hgq3, ⟨Lc3, hQ3, l3, y3, z3⟩, st3⟩ := callSS X2 hx (y := (⟨"org/bindery/DocumentElementIsPinLaw", "str", "(III)Ljava/lang/String;"⟩ : MethodName)) hown (mvT hZ (hw _ (List.mem_of_getElem? (i := 0) rfl))) (mvT hZ (hw _ (List.mem_of_getElem? (i := 1) rfl))) (mvT hZ (hw _ (List.mem_of_getElem? (i := 2) rfl))) (mvT hZ (hw _ (List.mem_of_getElem? (i := 3) rfl))) (by decide) (own_backOfE (W := 0) (rmStr l Z a0 hw [] x0 x1 el zc T2.heap n0 O S_C hcs hcH hcw bx0 bx1) hZ (hw _ (List.mem_of_getElem? (i := 3) rfl)) (hw _ (List.mem_of_getElem? (i := 2) rfl)) (by decide) (by decide)) (g := (mkF m 228 #[.val (.int p1), .val (.int p2), .val (.int p3), .val (.int p4), .val (.int u0), .val (.int u1), .val (.int nl), .val (.int el), .val (.int x0), .val (.int x1), .val (.int l0), .val (.int l1), .val (.int ll), .val (.int fl), .val (.int y0), .val (.int y1), .val (.ref r1), .val (.ref r2), .unset, .unset, .unset, .unset, .unset] [(.int el), (.int x1), (.int x0)])) rfl (by rw [hml]; rfl) (argsL := [(.int x0), (.int x1), (.int el)]) (rest := []) (lenOf pd_4 rfl) rfl (by show 2 * 0 + _ ≤ _; exact Nat.le_of_eq rfl) (hb hby at_228) (fun _ hWm => ⟨rfl, rfl, (by decide : 8 + 4 ≤ _), (by decide : 16 + 8 ≤ _), Em.warm M hWm⟩)
  dsimp only [Pt.U, Pt.locs, Pt.cells, Pt.slots] at X3 l3 y3 z3 st3 hQ3 hSq3 hgq3
  subst l3 y3 z3
  obtain ⟨X3, hS, hZ, hown⟩ := rebS hS hk X3 hSq3 hgq3 hZ hown
  obtain ⟨⟨r3, t3, k3, cs3, rfl, Nq3, Kq3, fq3_r, Gq3_0, Gq3_1, Gq3_2, Gq3_3, cq3_0, cq3_1, cq3_2⟩, M⟩ := hQ3
  replace N := Fr.app N Nq3
  have lt_r1_r3 : r1 < r3 := Nat.lt_of_lt_of_le Gq1_0.lt fq3_r
  have lt_t1_r3 : t1 < r3 := Nat.lt_of_lt_of_le Gq1_3.lt fq3_r
  have lt_r2_r3 : r2 < r3 := Nat.lt_of_lt_of_le Gq2_0.lt fq3_r
  have lt_t2_r3 : t2 < r3 := Nat.lt_of_lt_of_le Gq2_3.lt fq3_r
  have g_r3 : n0 ≤ r3 := Nat.le_trans (own_oldsz O) fq3_r
  have m_r3_3 : T2.heap.size ≤ r3 := Nat.le_trans KM.1 fq3_r
  replace Gq1_0 := Gq1_0.keep Kq3
  replace Gq1_1 := Gq1_1.keep Kq3 nin0
  replace Gq1_2 := Gq1_2.keep Kq3 nin0
  replace Gq1_3 := Gq1_3.keep Kq3 nin0
  replace Gq2_0 := Gq2_0.keep Kq3
  replace Gq2_1 := Gq2_1.keep Kq3 nin0
  replace Gq2_2 := Gq2_2.keep Kq3 nin0
  replace Gq2_3 := Gq2_3.keep Kq3 nin0
  replace O := O.keep Kq3 all0
  have hk : T3.heap.size ≤ T3.heap.size := Nat.le_refl _
  have KM : Keep T3.heap T3.heap [] := Keep.refl _ _
  refine own_go (B := T3.setTop (mkF m 231 #[.val (.int p1), .val (.int p2), .val (.int p3), .val (.int p4), .val (.int u0), .val (.int u1), .val (.int nl), .val (.int el), .val (.int x0), .val (.int x1), .val (.int l0), .val (.int l1), .val (.int ll), .val (.int fl), .val (.int y0), .val (.int y1), .val (.ref r1), .val (.ref r2), .unset, .unset, .unset, .unset, .unset] [(.ref r3)])) (fun t k => st3.trans k) ?_
  refine own_go (B := T3.setTop (mkF m 239 #[.val (.int p1), .val (.int p2), .val (.int p3), .val (.int p4), .val (.int u0), .val (.int u1), .val (.int nl), .val (.int el), .val (.int x0), .val (.int x1), .val (.int l0), .val (.int l1), .val (.int ll), .val (.int fl), .val (.int y0), .val (.int y1), .val (.ref r1), .val (.ref r2), .val (.ref r3), .unset, .unset, .unset, .unset] [(.int fl), (.int y1), (.int y0)])) (fun t k => ?_) ?_
  · show Steps p.tables e below (T3.setTop (mkF m 231 #[.val (.int p1), .val (.int p2), .val (.int p3), .val (.int p4), .val (.int u0), .val (.int u1), .val (.int nl), .val (.int el), .val (.int x0), .val (.int x1), .val (.int l0), .val (.int l1), .val (.int ll), .val (.int fl), .val (.int y0), .val (.int y1), .val (.ref r1), .val (.ref r2), .unset, .unset, .unset, .unset, .unset] [(.ref r3)])) _
    refine XS.astore X3.here hx rfl (hb hby at_231) rfl rfl (l' := #[.val (.int p1), .val (.int p2), .val (.int p3), .val (.int p4), .val (.int u0), .val (.int u1), .val (.int nl), .val (.int el), .val (.int x0), .val (.int x1), .val (.int l0), .val (.int l1), .val (.int ll), .val (.int fl), .val (.int y0), .val (.int y1), .val (.ref r1), .val (.ref r2), .val (.ref r3), .unset, .unset, .unset, .unset]) rfl ?_
    show Steps p.tables e below (T3.setTop (mkF m 233 #[.val (.int p1), .val (.int p2), .val (.int p3), .val (.int p4), .val (.int u0), .val (.int u1), .val (.int nl), .val (.int el), .val (.int x0), .val (.int x1), .val (.int l0), .val (.int l1), .val (.int ll), .val (.int fl), .val (.int y0), .val (.int y1), .val (.ref r1), .val (.ref r2), .val (.ref r3), .unset, .unset, .unset, .unset] [])) _
    refine XS.iload X3.here hx rfl (hb hby at_233) rfl ?_
    show Steps p.tables e below (T3.setTop (mkF m 235 #[.val (.int p1), .val (.int p2), .val (.int p3), .val (.int p4), .val (.int u0), .val (.int u1), .val (.int nl), .val (.int el), .val (.int x0), .val (.int x1), .val (.int l0), .val (.int l1), .val (.int ll), .val (.int fl), .val (.int y0), .val (.int y1), .val (.ref r1), .val (.ref r2), .val (.ref r3), .unset, .unset, .unset, .unset] [(.int y0)])) _
    refine XS.iload X3.here hx rfl (hb hby at_235) rfl ?_
    show Steps p.tables e below (T3.setTop (mkF m 237 #[.val (.int p1), .val (.int p2), .val (.int p3), .val (.int p4), .val (.int u0), .val (.int u1), .val (.int nl), .val (.int el), .val (.int x0), .val (.int x1), .val (.int l0), .val (.int l1), .val (.int ll), .val (.int fl), .val (.int y0), .val (.int y1), .val (.ref r1), .val (.ref r2), .val (.ref r3), .unset, .unset, .unset, .unset] [(.int y1), (.int y0)])) _
    refine XS.iload X3.here hx rfl (hb hby at_237) rfl ?_
    show Steps p.tables e below (T3.setTop (mkF m 239 #[.val (.int p1), .val (.int p2), .val (.int p3), .val (.int p4), .val (.int u0), .val (.int u1), .val (.int nl), .val (.int el), .val (.int x0), .val (.int x1), .val (.int l0), .val (.int l1), .val (.int ll), .val (.int fl), .val (.int y0), .val (.int y1), .val (.ref r1), .val (.ref r2), .val (.ref r3), .unset, .unset, .unset, .unset] [(.int fl), (.int y1), (.int y0)])) _
    exact k
  -- pc 239: org/bindery/DocumentElementIsPinLaw.str
  obtain ⟨_, _, ⟨T4, L4, k4, n4⟩, -, X4, hSq4, hgq4, ⟨Lc4, hQ4, l4, y4, z4⟩, st4⟩ := callSS X3 hx (y := (⟨"org/bindery/DocumentElementIsPinLaw", "str", "(III)Ljava/lang/String;"⟩ : MethodName)) hown (mvT hZ (hw _ (List.mem_of_getElem? (i := 0) rfl))) (mvT hZ (hw _ (List.mem_of_getElem? (i := 1) rfl))) (mvT hZ (hw _ (List.mem_of_getElem? (i := 2) rfl))) (mvT hZ (hw _ (List.mem_of_getElem? (i := 3) rfl))) (by decide) (own_backOfE (W := 0) (rmStr l Z a0 hw [] y0 y1 fl zc T3.heap n0 O S_C hcs hcH hcw by0 by1) hZ (hw _ (List.mem_of_getElem? (i := 3) rfl)) (hw _ (List.mem_of_getElem? (i := 2) rfl)) (by decide) (by decide)) (g := (mkF m 239 #[.val (.int p1), .val (.int p2), .val (.int p3), .val (.int p4), .val (.int u0), .val (.int u1), .val (.int nl), .val (.int el), .val (.int x0), .val (.int x1), .val (.int l0), .val (.int l1), .val (.int ll), .val (.int fl), .val (.int y0), .val (.int y1), .val (.ref r1), .val (.ref r2), .val (.ref r3), .unset, .unset, .unset, .unset] [(.int fl), (.int y1), (.int y0)])) rfl (by rw [hml]; rfl) (argsL := [(.int y0), (.int y1), (.int fl)]) (rest := []) (lenOf pd_4 rfl) rfl (by show 2 * 0 + _ ≤ _; exact Nat.le_of_eq rfl) (hb hby at_239) (fun _ hWm => ⟨rfl, rfl, (by decide : 12 + 4 ≤ _), (by decide : 24 + 8 ≤ _), Em.warm M hWm⟩)
  dsimp only [Pt.U, Pt.locs, Pt.cells, Pt.slots] at X4 l4 y4 z4 st4 hQ4 hSq4 hgq4
  subst l4 y4 z4
  obtain ⟨X4, hS, hZ, hown⟩ := rebS hS hk X4 hSq4 hgq4 hZ hown
  obtain ⟨⟨r4, t4, k4, cs4, rfl, Nq4, Kq4, fq4_r, Gq4_0, Gq4_1, Gq4_2, Gq4_3, cq4_0, cq4_1, cq4_2⟩, M⟩ := hQ4
  replace N := Fr.app N Nq4
  have lt_r1_r4 : r1 < r4 := Nat.lt_of_lt_of_le Gq1_0.lt fq4_r
  have lt_t1_r4 : t1 < r4 := Nat.lt_of_lt_of_le Gq1_3.lt fq4_r
  have lt_r2_r4 : r2 < r4 := Nat.lt_of_lt_of_le Gq2_0.lt fq4_r
  have lt_t2_r4 : t2 < r4 := Nat.lt_of_lt_of_le Gq2_3.lt fq4_r
  have lt_r3_r4 : r3 < r4 := Nat.lt_of_lt_of_le Gq3_0.lt fq4_r
  have lt_t3_r4 : t3 < r4 := Nat.lt_of_lt_of_le Gq3_3.lt fq4_r
  have g_r4 : n0 ≤ r4 := Nat.le_trans (own_oldsz O) fq4_r
  have m_r4_4 : T3.heap.size ≤ r4 := Nat.le_trans KM.1 fq4_r
  replace Gq1_0 := Gq1_0.keep Kq4
  replace Gq1_1 := Gq1_1.keep Kq4 nin0
  replace Gq1_2 := Gq1_2.keep Kq4 nin0
  replace Gq1_3 := Gq1_3.keep Kq4 nin0
  replace Gq2_0 := Gq2_0.keep Kq4
  replace Gq2_1 := Gq2_1.keep Kq4 nin0
  replace Gq2_2 := Gq2_2.keep Kq4 nin0
  replace Gq2_3 := Gq2_3.keep Kq4 nin0
  replace Gq3_0 := Gq3_0.keep Kq4
  replace Gq3_1 := Gq3_1.keep Kq4 nin0
  replace Gq3_2 := Gq3_2.keep Kq4 nin0
  replace Gq3_3 := Gq3_3.keep Kq4 nin0
  replace O := O.keep Kq4 all0
  have hk : T4.heap.size ≤ T4.heap.size := Nat.le_refl _
  have KM : Keep T4.heap T4.heap [] := Keep.refl _ _
  refine own_go (B := T4.setTop (mkF m 242 #[.val (.int p1), .val (.int p2), .val (.int p3), .val (.int p4), .val (.int u0), .val (.int u1), .val (.int nl), .val (.int el), .val (.int x0), .val (.int x1), .val (.int l0), .val (.int l1), .val (.int ll), .val (.int fl), .val (.int y0), .val (.int y1), .val (.ref r1), .val (.ref r2), .val (.ref r3), .unset, .unset, .unset, .unset] [(.ref r4)])) (fun t k => st4.trans k) ?_
  refine own_go (B := T4.setTop (mkF m 244 #[.val (.int p1), .val (.int p2), .val (.int p3), .val (.int p4), .val (.int u0), .val (.int u1), .val (.int nl), .val (.int el), .val (.int x0), .val (.int x1), .val (.int l0), .val (.int l1), .val (.int ll), .val (.int fl), .val (.int y0), .val (.int y1), .val (.ref r1), .val (.ref r2), .val (.ref r3), .val (.ref r4), .unset, .unset, .unset] [])) (fun t k => ?_) ?_
  · show Steps p.tables e below (T4.setTop (mkF m 242 #[.val (.int p1), .val (.int p2), .val (.int p3), .val (.int p4), .val (.int u0), .val (.int u1), .val (.int nl), .val (.int el), .val (.int x0), .val (.int x1), .val (.int l0), .val (.int l1), .val (.int ll), .val (.int fl), .val (.int y0), .val (.int y1), .val (.ref r1), .val (.ref r2), .val (.ref r3), .unset, .unset, .unset, .unset] [(.ref r4)])) _
    refine XS.astore X4.here hx rfl (hb hby at_242) rfl rfl (l' := #[.val (.int p1), .val (.int p2), .val (.int p3), .val (.int p4), .val (.int u0), .val (.int u1), .val (.int nl), .val (.int el), .val (.int x0), .val (.int x1), .val (.int l0), .val (.int l1), .val (.int ll), .val (.int fl), .val (.int y0), .val (.int y1), .val (.ref r1), .val (.ref r2), .val (.ref r3), .val (.ref r4), .unset, .unset, .unset]) rfl ?_
    show Steps p.tables e below (T4.setTop (mkF m 244 #[.val (.int p1), .val (.int p2), .val (.int p3), .val (.int p4), .val (.int u0), .val (.int u1), .val (.int nl), .val (.int el), .val (.int x0), .val (.int x1), .val (.int l0), .val (.int l1), .val (.int ll), .val (.int fl), .val (.int y0), .val (.int y1), .val (.ref r1), .val (.ref r2), .val (.ref r3), .val (.ref r4), .unset, .unset, .unset] [])) _
    exact k
  obtain ⟨T5, h5, X5, e5, E5, A5, D5, -, st5⟩ := newO X4 hx hZ hown (hw _ (List.mem_of_getElem? (i := 26) rfl)) (hw _ (List.mem_of_getElem? (i := 27) rfl)) (hw _ (List.mem_of_getElem? (i := 28) rfl)) rfl (g := (mkF m 244 #[.val (.int p1), .val (.int p2), .val (.int p3), .val (.int p4), .val (.int u0), .val (.int u1), .val (.int nl), .val (.int el), .val (.int x0), .val (.int x1), .val (.int l0), .val (.int l1), .val (.int ll), .val (.int fl), .val (.int y0), .val (.int y1), .val (.ref r1), .val (.ref r2), .val (.ref r3), .val (.ref r4), .unset, .unset, .unset] [])) rfl (hb hby at_244) (by decide) (by decide)
  obtain ⟨b5, g5⟩ : ∃ z, z = T4.heap.size := ⟨_, rfl⟩
  rw [← g5] at A5 D5 st5
  have lt_r1_b5 : r1 < b5 := Nat.lt_of_lt_of_le Gq1_0.lt (Nat.le_of_eq g5.symm)
  have lt_t1_b5 : t1 < b5 := Nat.lt_of_lt_of_le Gq1_3.lt (Nat.le_of_eq g5.symm)
  have lt_r2_b5 : r2 < b5 := Nat.lt_of_lt_of_le Gq2_0.lt (Nat.le_of_eq g5.symm)
  have lt_t2_b5 : t2 < b5 := Nat.lt_of_lt_of_le Gq2_3.lt (Nat.le_of_eq g5.symm)
  have lt_r3_b5 : r3 < b5 := Nat.lt_of_lt_of_le Gq3_0.lt (Nat.le_of_eq g5.symm)
  have lt_t3_b5 : t3 < b5 := Nat.lt_of_lt_of_le Gq3_3.lt (Nat.le_of_eq g5.symm)
  have lt_r4_b5 : r4 < b5 := Nat.lt_of_lt_of_le Gq4_0.lt (Nat.le_of_eq g5.symm)
  have lt_t4_b5 : t4 < b5 := Nat.lt_of_lt_of_le Gq4_3.lt (Nat.le_of_eq g5.symm)
  have g_b5 : n0 ≤ b5 := Nat.le_trans (own_oldsz O) (Nat.le_of_eq g5.symm)
  have m_b5_5 : T4.heap.size ≤ b5 := Nat.le_trans KM.1 (Nat.le_of_eq g5.symm)
  replace Gq1_0 := Gq1_0.ext E5
  replace Gq1_1 := Gq1_1.ext E5
  replace Gq1_2 := Gq1_2.ext E5
  replace Gq1_3 := Gq1_3.ext E5
  replace Gq2_0 := Gq2_0.ext E5
  replace Gq2_1 := Gq2_1.ext E5
  replace Gq2_2 := Gq2_2.ext E5
  replace Gq2_3 := Gq2_3.ext E5
  replace Gq3_0 := Gq3_0.ext E5
  replace Gq3_1 := Gq3_1.ext E5
  replace Gq3_2 := Gq3_2.ext E5
  replace Gq3_3 := Gq3_3.ext E5
  replace Gq4_0 := Gq4_0.ext E5
  replace Gq4_1 := Gq4_1.ext E5
  replace Gq4_2 := Gq4_2.ext E5
  replace Gq4_3 := Gq4_3.ext E5
  replace O := O.ext E5
  replace hk := Nat.le_trans hk E5.1
  replace KM := KM.ext E5
  have F5_namespace : Fld Z h5 b5 "org/bindery/DocumentElement" "namespace" "Ljava/lang/String;" .null := D5 (Or.inr (hw _ (List.mem_of_getElem? (i := 50) rfl))) (ty := (.object "java/lang/String")) (by decide)
  have F5_localName : Fld Z h5 b5 "org/bindery/DocumentElement" "localName" "Ljava/lang/String;" .null := D5 (Or.inr (hw _ (List.mem_of_getElem? (i := 52) rfl))) (ty := (.object "java/lang/String")) (by decide)
  have F5_targetNamespace : Fld Z h5 b5 "org/bindery/DocumentElement" "targetNamespace" "Ljava/lang/String;" .null := D5 (Or.inr (hw _ (List.mem_of_getElem? (i := 54) rfl))) (ty := (.object "java/lang/String")) (by decide)
  have F5_end : Fld Z h5 b5 "org/bindery/DocumentElement" "end" "Lorg/bindery/Position;" .null := D5 (Or.inr (hw _ (List.mem_of_getElem? (i := 56) rfl))) (ty := (.object "org/bindery/Position")) (by decide)
  refine own_go (B := T5.setTop (mkF m 247 #[.val (.int p1), .val (.int p2), .val (.int p3), .val (.int p4), .val (.int u0), .val (.int u1), .val (.int nl), .val (.int el), .val (.int x0), .val (.int x1), .val (.int l0), .val (.int l1), .val (.int ll), .val (.int fl), .val (.int y0), .val (.int y1), .val (.ref r1), .val (.ref r2), .val (.ref r3), .val (.ref r4), .unset, .unset, .unset] [(.ref b5)])) st5 ?_
  refine own_go (B := T5.setTop (mkF m 253 #[.val (.int p1), .val (.int p2), .val (.int p3), .val (.int p4), .val (.int u0), .val (.int u1), .val (.int nl), .val (.int el), .val (.int x0), .val (.int x1), .val (.int l0), .val (.int l1), .val (.int ll), .val (.int fl), .val (.int y0), .val (.int y1), .val (.ref r1), .val (.ref r2), .val (.ref r3), .val (.ref r4), .unset, .unset, .unset] [.null, (.ref r2), (.ref r1), (.ref b5), (.ref b5)])) (fun t k => ?_) ?_
  · show Steps p.tables e below (T5.setTop (mkF m 247 #[.val (.int p1), .val (.int p2), .val (.int p3), .val (.int p4), .val (.int u0), .val (.int u1), .val (.int nl), .val (.int el), .val (.int x0), .val (.int x1), .val (.int l0), .val (.int l1), .val (.int ll), .val (.int fl), .val (.int y0), .val (.int y1), .val (.ref r1), .val (.ref r2), .val (.ref r3), .val (.ref r4), .unset, .unset, .unset] [(.ref b5)])) _
    refine XS.dup X5.here hx rfl (hb hby at_247) rfl rfl ?_
    show Steps p.tables e below (T5.setTop (mkF m 248 #[.val (.int p1), .val (.int p2), .val (.int p3), .val (.int p4), .val (.int u0), .val (.int u1), .val (.int nl), .val (.int el), .val (.int x0), .val (.int x1), .val (.int l0), .val (.int l1), .val (.int ll), .val (.int fl), .val (.int y0), .val (.int y1), .val (.ref r1), .val (.ref r2), .val (.ref r3), .val (.ref r4), .unset, .unset, .unset] [(.ref b5), (.ref b5)])) _
    refine XS.aload X5.here hx rfl (hb hby at_248) rfl rfl ?_
    show Steps p.tables e below (T5.setTop (mkF m 250 #[.val (.int p1), .val (.int p2), .val (.int p3), .val (.int p4), .val (.int u0), .val (.int u1), .val (.int nl), .val (.int el), .val (.int x0), .val (.int x1), .val (.int l0), .val (.int l1), .val (.int ll), .val (.int fl), .val (.int y0), .val (.int y1), .val (.ref r1), .val (.ref r2), .val (.ref r3), .val (.ref r4), .unset, .unset, .unset] [(.ref r1), (.ref b5), (.ref b5)])) _
    refine XS.aload X5.here hx rfl (hb hby at_250) rfl rfl ?_
    show Steps p.tables e below (T5.setTop (mkF m 252 #[.val (.int p1), .val (.int p2), .val (.int p3), .val (.int p4), .val (.int u0), .val (.int u1), .val (.int nl), .val (.int el), .val (.int x0), .val (.int x1), .val (.int l0), .val (.int l1), .val (.int ll), .val (.int fl), .val (.int y0), .val (.int y1), .val (.ref r1), .val (.ref r2), .val (.ref r3), .val (.ref r4), .unset, .unset, .unset] [(.ref r2), (.ref r1), (.ref b5), (.ref b5)])) _
    refine XS.aconstNull X5.here hx rfl (hb hby at_252) ?_
    show Steps p.tables e below (T5.setTop (mkF m 253 #[.val (.int p1), .val (.int p2), .val (.int p3), .val (.int p4), .val (.int u0), .val (.int u1), .val (.int nl), .val (.int el), .val (.int x0), .val (.int x1), .val (.int l0), .val (.int l1), .val (.int ll), .val (.int fl), .val (.int y0), .val (.int y1), .val (.ref r1), .val (.ref r2), .val (.ref r3), .val (.ref r4), .unset, .unset, .unset] [.null, (.ref r2), (.ref r1), (.ref b5), (.ref b5)])) _
    exact k
  obtain ⟨T6, h6, X6, e6, E6, A6, D6, -, st6⟩ := newO X5 hx hZ hown (hw _ (List.mem_of_getElem? (i := 29) rfl)) (hw _ (List.mem_of_getElem? (i := 30) rfl)) (hw _ (List.mem_of_getElem? (i := 31) rfl)) e5 (g := (mkF m 253 #[.val (.int p1), .val (.int p2), .val (.int p3), .val (.int p4), .val (.int u0), .val (.int u1), .val (.int nl), .val (.int el), .val (.int x0), .val (.int x1), .val (.int l0), .val (.int l1), .val (.int ll), .val (.int fl), .val (.int y0), .val (.int y1), .val (.ref r1), .val (.ref r2), .val (.ref r3), .val (.ref r4), .unset, .unset, .unset] [.null, (.ref r2), (.ref r1), (.ref b5), (.ref b5)])) rfl (hb hby at_253) (by decide) (by decide)
  obtain ⟨b6, g6⟩ : ∃ z, z = h5.size := ⟨_, rfl⟩
  rw [← g6] at A6 D6 st6
  have lt_r1_b6 : r1 < b6 := Nat.lt_of_lt_of_le Gq1_0.lt (Nat.le_of_eq g6.symm)
  have lt_t1_b6 : t1 < b6 := Nat.lt_of_lt_of_le Gq1_3.lt (Nat.le_of_eq g6.symm)
  have lt_r2_b6 : r2 < b6 := Nat.lt_of_lt_of_le Gq2_0.lt (Nat.le_of_eq g6.symm)
  have lt_t2_b6 : t2 < b6 := Nat.lt_of_lt_of_le Gq2_3.lt (Nat.le_of_eq g6.symm)
  have lt_r3_b6 : r3 < b6 := Nat.lt_of_lt_of_le Gq3_0.lt (Nat.le_of_eq g6.symm)
  have lt_t3_b6 : t3 < b6 := Nat.lt_of_lt_of_le Gq3_3.lt (Nat.le_of_eq g6.symm)
  have lt_r4_b6 : r4 < b6 := Nat.lt_of_lt_of_le Gq4_0.lt (Nat.le_of_eq g6.symm)
  have lt_t4_b6 : t4 < b6 := Nat.lt_of_lt_of_le Gq4_3.lt (Nat.le_of_eq g6.symm)
  have lt_b5_b6 : b5 < b6 := Nat.lt_of_lt_of_le A5.lt (Nat.le_of_eq g6.symm)
  have g_b6 : n0 ≤ b6 := Nat.le_trans (own_oldsz O) (Nat.le_of_eq g6.symm)
  have m_b6_6 : T4.heap.size ≤ b6 := Nat.le_trans KM.1 (Nat.le_of_eq g6.symm)
  replace Gq1_0 := Gq1_0.ext E6
  replace Gq1_1 := Gq1_1.ext E6
  replace Gq1_2 := Gq1_2.ext E6
  replace Gq1_3 := Gq1_3.ext E6
  replace Gq2_0 := Gq2_0.ext E6
  replace Gq2_1 := Gq2_1.ext E6
  replace Gq2_2 := Gq2_2.ext E6
  replace Gq2_3 := Gq2_3.ext E6
  replace Gq3_0 := Gq3_0.ext E6
  replace Gq3_1 := Gq3_1.ext E6
  replace Gq3_2 := Gq3_2.ext E6
  replace Gq3_3 := Gq3_3.ext E6
  replace Gq4_0 := Gq4_0.ext E6
  replace Gq4_1 := Gq4_1.ext E6
  replace Gq4_2 := Gq4_2.ext E6
  replace Gq4_3 := Gq4_3.ext E6
  replace A5 := A5.ext E6
  replace F5_namespace := F5_namespace.ext E6
  replace F5_localName := F5_localName.ext E6
  replace F5_targetNamespace := F5_targetNamespace.ext E6
  replace F5_end := F5_end.ext E6
  replace O := O.ext E6
  replace hk := Nat.le_trans hk E6.1
  replace KM := KM.ext E6
  have F6_line : Fld Z h6 b6 "org/bindery/Position" "line" "I" (.int (0 : Int32)) := D6 (Or.inr (hw _ (List.mem_of_getElem? (i := 42) rfl))) (ty := .int) (by decide)
  have F6_column : Fld Z h6 b6 "org/bindery/Position" "column" "I" (.int (0 : Int32)) := D6 (Or.inr (hw _ (List.mem_of_getElem? (i := 44) rfl))) (ty := .int) (by decide)
  refine own_go (B := T6.setTop (mkF m 256 #[.val (.int p1), .val (.int p2), .val (.int p3), .val (.int p4), .val (.int u0), .val (.int u1), .val (.int nl), .val (.int el), .val (.int x0), .val (.int x1), .val (.int l0), .val (.int l1), .val (.int ll), .val (.int fl), .val (.int y0), .val (.int y1), .val (.ref r1), .val (.ref r2), .val (.ref r3), .val (.ref r4), .unset, .unset, .unset] [(.ref b6), .null, (.ref r2), (.ref r1), (.ref b5), (.ref b5)])) st6 ?_
  refine own_go (B := T6.setTop (mkF m 259 #[.val (.int p1), .val (.int p2), .val (.int p3), .val (.int p4), .val (.int u0), .val (.int u1), .val (.int nl), .val (.int el), .val (.int x0), .val (.int x1), .val (.int l0), .val (.int l1), .val (.int ll), .val (.int fl), .val (.int y0), .val (.int y1), .val (.ref r1), .val (.ref r2), .val (.ref r3), .val (.ref r4), .unset, .unset, .unset] [(.int (1 : Int32)), (.int (1 : Int32)), (.ref b6), (.ref b6), .null, (.ref r2), (.ref r1), (.ref b5), (.ref b5)])) (fun t k => ?_) ?_
  · show Steps p.tables e below (T6.setTop (mkF m 256 #[.val (.int p1), .val (.int p2), .val (.int p3), .val (.int p4), .val (.int u0), .val (.int u1), .val (.int nl), .val (.int el), .val (.int x0), .val (.int x1), .val (.int l0), .val (.int l1), .val (.int ll), .val (.int fl), .val (.int y0), .val (.int y1), .val (.ref r1), .val (.ref r2), .val (.ref r3), .val (.ref r4), .unset, .unset, .unset] [(.ref b6), .null, (.ref r2), (.ref r1), (.ref b5), (.ref b5)])) _
    refine XS.dup X6.here hx rfl (hb hby at_256) rfl rfl ?_
    show Steps p.tables e below (T6.setTop (mkF m 257 #[.val (.int p1), .val (.int p2), .val (.int p3), .val (.int p4), .val (.int u0), .val (.int u1), .val (.int nl), .val (.int el), .val (.int x0), .val (.int x1), .val (.int l0), .val (.int l1), .val (.int ll), .val (.int fl), .val (.int y0), .val (.int y1), .val (.ref r1), .val (.ref r2), .val (.ref r3), .val (.ref r4), .unset, .unset, .unset] [(.ref b6), (.ref b6), .null, (.ref r2), (.ref r1), (.ref b5), (.ref b5)])) _
    refine XS.iconst X6.here hx rfl (hb hby at_257) ?_
    show Steps p.tables e below (T6.setTop (mkF m 258 #[.val (.int p1), .val (.int p2), .val (.int p3), .val (.int p4), .val (.int u0), .val (.int u1), .val (.int nl), .val (.int el), .val (.int x0), .val (.int x1), .val (.int l0), .val (.int l1), .val (.int ll), .val (.int fl), .val (.int y0), .val (.int y1), .val (.ref r1), .val (.ref r2), .val (.ref r3), .val (.ref r4), .unset, .unset, .unset] [(.int (1 : Int32)), (.ref b6), (.ref b6), .null, (.ref r2), (.ref r1), (.ref b5), (.ref b5)])) _
    refine XS.iconst X6.here hx rfl (hb hby at_258) ?_
    show Steps p.tables e below (T6.setTop (mkF m 259 #[.val (.int p1), .val (.int p2), .val (.int p3), .val (.int p4), .val (.int u0), .val (.int u1), .val (.int nl), .val (.int el), .val (.int x0), .val (.int x1), .val (.int l0), .val (.int l1), .val (.int ll), .val (.int fl), .val (.int y0), .val (.int y1), .val (.ref r1), .val (.ref r2), .val (.ref r3), .val (.ref r4), .unset, .unset, .unset] [(.int (1 : Int32)), (.int (1 : Int32)), (.ref b6), (.ref b6), .null, (.ref r2), (.ref r1), (.ref b5), (.ref b5)])) _
    exact k
  -- pc 259: org/bindery/Position.<init>
  obtain ⟨_, _, ⟨T7, L7, k7, n7⟩, -, X7, ⟨Lc7, hQ7, l7, y7, z7⟩, st7⟩ := X6.specialBack hx (y := (⟨"org/bindery/Position", "<init>", "(II)V"⟩ : MethodName)) rfl hown (mvT hZ (hw _ (List.mem_of_getElem? (i := 32) rfl))) (mvT hZ (hw _ (List.mem_of_getElem? (i := 33) rfl))) (mvT hZ (hw _ (List.mem_of_getElem? (i := 34) rfl))) (by decide) (backOf (W := 6) (rmPos l Z a0 hw [] b6 (1 : Int32) (1 : Int32) h6 n0 O A6 F6_line F6_column g_b6) hZ (hw _ (List.mem_of_getElem? (i := 34) rfl)) (hw _ (List.mem_of_getElem? (i := 31) rfl)) (by decide) (by decide)) (g := (mkF m 259 #[.val (.int p1), .val (.int p2), .val (.int p3), .val (.int p4), .val (.int u0), .val (.int u1), .val (.int nl), .val (.int el), .val (.int x0), .val (.int x1), .val (.int l0), .val (.int l1), .val (.int ll), .val (.int fl), .val (.int y0), .val (.int y1), .val (.ref r1), .val (.ref r2), .val (.ref r3), .val (.ref r4), .unset, .unset, .unset] [(.int (1 : Int32)), (.int (1 : Int32)), (.ref b6), (.ref b6), .null, (.ref r2), (.ref r1), (.ref b5), (.ref b5)])) rfl (by rw [hml]; rfl) (Steps.refl _) (a := b6) (argsL := [(.int (1 : Int32)), (.int (1 : Int32))]) (rest := [(.ref b6), .null, (.ref r2), (.ref r1), (.ref b5), (.ref b5)]) (lenOf pd_5 rfl) rfl (by show 2 * 0 + _ ≤ _; exact Nat.le_of_eq rfl) (hb hby at_259) (fun _ hWm => ⟨rfl, e6, (by decide : 18 + 0 ≤ _), (by decide : 38 + 0 ≤ _)⟩)
  dsimp only [Pt.U, Pt.locs, Pt.cells, Pt.slots] at X7 l7 y7 z7 st7 hQ7
  subst l7 y7 z7
  obtain ⟨rfl, Nq7, Kq7⟩ := hQ7
  replace N := Fr.app N Nq7
  replace Gq1_0 := Gq1_0.keep Kq7
  replace Gq1_1 := Gq1_1.keep Kq7 (ninS (Nat.ne_of_lt lt_r1_b6) nin0)
  replace Gq1_2 := Gq1_2.keep Kq7 (ninS (Nat.ne_of_lt lt_r1_b6) nin0)
  replace Gq1_3 := Gq1_3.keep Kq7 (ninS (Nat.ne_of_lt lt_t1_b6) nin0)
  replace Gq2_0 := Gq2_0.keep Kq7
  replace Gq2_1 := Gq2_1.keep Kq7 (ninS (Nat.ne_of_lt lt_r2_b6) nin0)
  replace Gq2_2 := Gq2_2.keep Kq7 (ninS (Nat.ne_of_lt lt_r2_b6) nin0)
  replace Gq2_3 := Gq2_3.keep Kq7 (ninS (Nat.ne_of_lt lt_t2_b6) nin0)
  replace Gq3_0 := Gq3_0.keep Kq7
  replace Gq3_1 := Gq3_1.keep Kq7 (ninS (Nat.ne_of_lt lt_r3_b6) nin0)
  replace Gq3_2 := Gq3_2.keep Kq7 (ninS (Nat.ne_of_lt lt_r3_b6) nin0)
  replace Gq3_3 := Gq3_3.keep Kq7 (ninS (Nat.ne_of_lt lt_t3_b6) nin0)
  replace Gq4_0 := Gq4_0.keep Kq7
  replace Gq4_1 := Gq4_1.keep Kq7 (ninS (Nat.ne_of_lt lt_r4_b6) nin0)
  replace Gq4_2 := Gq4_2.keep Kq7 (ninS (Nat.ne_of_lt lt_r4_b6) nin0)
  replace Gq4_3 := Gq4_3.keep Kq7 (ninS (Nat.ne_of_lt lt_t4_b6) nin0)
  replace A5 := A5.keep Kq7
  replace F5_namespace := F5_namespace.keep Kq7 (ninS (Nat.ne_of_lt lt_b5_b6) nin0)
  replace F5_localName := F5_localName.keep Kq7 (ninS (Nat.ne_of_lt lt_b5_b6) nin0)
  replace F5_targetNamespace := F5_targetNamespace.keep Kq7 (ninS (Nat.ne_of_lt lt_b5_b6) nin0)
  replace F5_end := F5_end.keep Kq7 (ninS (Nat.ne_of_lt lt_b5_b6) nin0)
  replace A6 := A6.keep Kq7
  clear F6_line
  clear F6_column
  replace O := O.keep Kq7 (allS g_b6 all0)
  replace hk := Nat.le_trans hk Kq7.1
  replace KM := KM.trans Kq7 (allS (Or.inr m_b6_6) all0)
  refine own_go (B := T7.setTop (mkF m 262 #[.val (.int p1), .val (.int p2), .val (.int p3), .val (.int p4), .val (.int u0), .val (.int u1), .val (.int nl), .val (.int el), .val (.int x0), .val (.int x1), .val (.int l0), .val (.int l1), .val (.int ll), .val (.int fl), .val (.int y0), .val (.int y1), .val (.ref r1), .val (.ref r2), .val (.ref r3), .val (.ref r4), .unset, .unset, .unset] [(.ref b6), .null, (.ref r2), (.ref r1), (.ref b5), (.ref b5)])) (fun t k => st7.trans k) ?_
  -- pc 262: org/bindery/DocumentElement.<init>
  obtain ⟨_, _, ⟨T8, L8, k8, n8⟩, -, X8, ⟨Lc8, hQ8, l8, y8, z8⟩, st8⟩ := X7.specialBack hx (y := (⟨"org/bindery/DocumentElement", "<init>", "(Ljava/lang/String;Ljava/lang/String;Ljava/lang/String;Lorg/bindery/Position;)V"⟩ : MethodName)) rfl hown (mvT hZ (hw _ (List.mem_of_getElem? (i := 45) rfl))) (mvT hZ (hw _ (List.mem_of_getElem? (i := 46) rfl))) (mvT hZ (hw _ (List.mem_of_getElem? (i := 47) rfl))) (by decide) (backOf (W := 1) (rmDeI l Z a0 hw [] b5 r1 r2 b6 T7.heap n0 O A5 F5_namespace F5_localName F5_targetNamespace F5_end g_b5) hZ (hw _ (List.mem_of_getElem? (i := 47) rfl)) (hw _ (List.mem_of_getElem? (i := 28) rfl)) (by decide) (by decide)) (g := (mkF m 262 #[.val (.int p1), .val (.int p2), .val (.int p3), .val (.int p4), .val (.int u0), .val (.int u1), .val (.int nl), .val (.int el), .val (.int x0), .val (.int x1), .val (.int l0), .val (.int l1), .val (.int ll), .val (.int fl), .val (.int y0), .val (.int y1), .val (.ref r1), .val (.ref r2), .val (.ref r3), .val (.ref r4), .unset, .unset, .unset] [(.ref b6), .null, (.ref r2), (.ref r1), (.ref b5), (.ref b5)])) rfl (by rw [hml]; rfl) (Steps.refl _) (a := b5) (argsL := [(.ref r1), (.ref r2), .null, (.ref b6)]) (rest := [(.ref b5)]) (lenOf pd_6 rfl) rfl (by show 2 * 0 + _ ≤ _; exact Nat.le_of_eq rfl) (hb hby at_262) (fun _ hWm => ⟨rfl, rfl, (by decide : 18 + 0 ≤ _), (by decide : 38 + 0 ≤ _)⟩)
  dsimp only [Pt.U, Pt.locs, Pt.cells, Pt.slots] at X8 l8 y8 z8 st8 hQ8
  subst l8 y8 z8
  obtain ⟨rfl, Nq8, Kq8, Gq8_0, Gq8_1⟩ := hQ8
  replace N := Fr.app N Nq8
  replace Gq1_0 := Gq1_0.keep Kq8
  replace Gq1_1 := Gq1_1.keep Kq8 (ninS (Nat.ne_of_lt lt_r1_b5) nin0)
  replace Gq1_2 := Gq1_2.keep Kq8 (ninS (Nat.ne_of_lt lt_r1_b5) nin0)
  replace Gq1_3 := Gq1_3.keep Kq8 (ninS (Nat.ne_of_lt lt_t1_b5) nin0)
  replace Gq2_0 := Gq2_0.keep Kq8
  replace Gq2_1 := Gq2_1.keep Kq8 (ninS (Nat.ne_of_lt lt_r2_b5) nin0)
  replace Gq2_2 := Gq2_2.keep Kq8 (ninS (Nat.ne_of_lt lt_r2_b5) nin0)
  replace Gq2_3 := Gq2_3.keep Kq8 (ninS (Nat.ne_of_lt lt_t2_b5) nin0)
  replace Gq3_0 := Gq3_0.keep Kq8
  replace Gq3_1 := Gq3_1.keep Kq8 (ninS (Nat.ne_of_lt lt_r3_b5) nin0)
  replace Gq3_2 := Gq3_2.keep Kq8 (ninS (Nat.ne_of_lt lt_r3_b5) nin0)
  replace Gq3_3 := Gq3_3.keep Kq8 (ninS (Nat.ne_of_lt lt_t3_b5) nin0)
  replace Gq4_0 := Gq4_0.keep Kq8
  replace Gq4_1 := Gq4_1.keep Kq8 (ninS (Nat.ne_of_lt lt_r4_b5) nin0)
  replace Gq4_2 := Gq4_2.keep Kq8 (ninS (Nat.ne_of_lt lt_r4_b5) nin0)
  replace Gq4_3 := Gq4_3.keep Kq8 (ninS (Nat.ne_of_lt lt_t4_b5) nin0)
  replace A5 := A5.keep Kq8
  clear F5_namespace
  clear F5_localName
  clear F5_targetNamespace
  clear F5_end
  replace A6 := A6.keep Kq8
  replace O := O.keep Kq8 (allS g_b5 all0)
  replace hk := Nat.le_trans hk Kq8.1
  replace KM := KM.trans Kq8 (allS (Or.inr m_b5_5) all0)
  refine own_go (B := T8.setTop (mkF m 265 #[.val (.int p1), .val (.int p2), .val (.int p3), .val (.int p4), .val (.int u0), .val (.int u1), .val (.int nl), .val (.int el), .val (.int x0), .val (.int x1), .val (.int l0), .val (.int l1), .val (.int ll), .val (.int fl), .val (.int y0), .val (.int y1), .val (.ref r1), .val (.ref r2), .val (.ref r3), .val (.ref r4), .unset, .unset, .unset] [(.ref b5)])) (fun t k => st8.trans k) ?_
  refine own_go (B := T8.setTop (mkF m 273 #[.val (.int p1), .val (.int p2), .val (.int p3), .val (.int p4), .val (.int u0), .val (.int u1), .val (.int nl), .val (.int el), .val (.int x0), .val (.int x1), .val (.int l0), .val (.int l1), .val (.int ll), .val (.int fl), .val (.int y0), .val (.int y1), .val (.ref r1), .val (.ref r2), .val (.ref r3), .val (.ref r4), .val (.ref b5), .unset, .unset] [(.ref r4), (.ref r3), (.ref b5)])) (fun t k => ?_) ?_
  · show Steps p.tables e below (T8.setTop (mkF m 265 #[.val (.int p1), .val (.int p2), .val (.int p3), .val (.int p4), .val (.int u0), .val (.int u1), .val (.int nl), .val (.int el), .val (.int x0), .val (.int x1), .val (.int l0), .val (.int l1), .val (.int ll), .val (.int fl), .val (.int y0), .val (.int y1), .val (.ref r1), .val (.ref r2), .val (.ref r3), .val (.ref r4), .unset, .unset, .unset] [(.ref b5)])) _
    refine XS.astore X8.here hx rfl (hb hby at_265) rfl rfl (l' := #[.val (.int p1), .val (.int p2), .val (.int p3), .val (.int p4), .val (.int u0), .val (.int u1), .val (.int nl), .val (.int el), .val (.int x0), .val (.int x1), .val (.int l0), .val (.int l1), .val (.int ll), .val (.int fl), .val (.int y0), .val (.int y1), .val (.ref r1), .val (.ref r2), .val (.ref r3), .val (.ref r4), .val (.ref b5), .unset, .unset]) rfl ?_
    show Steps p.tables e below (T8.setTop (mkF m 267 #[.val (.int p1), .val (.int p2), .val (.int p3), .val (.int p4), .val (.int u0), .val (.int u1), .val (.int nl), .val (.int el), .val (.int x0), .val (.int x1), .val (.int l0), .val (.int l1), .val (.int ll), .val (.int fl), .val (.int y0), .val (.int y1), .val (.ref r1), .val (.ref r2), .val (.ref r3), .val (.ref r4), .val (.ref b5), .unset, .unset] [])) _
    refine XS.aload X8.here hx rfl (hb hby at_267) rfl rfl ?_
    show Steps p.tables e below (T8.setTop (mkF m 269 #[.val (.int p1), .val (.int p2), .val (.int p3), .val (.int p4), .val (.int u0), .val (.int u1), .val (.int nl), .val (.int el), .val (.int x0), .val (.int x1), .val (.int l0), .val (.int l1), .val (.int ll), .val (.int fl), .val (.int y0), .val (.int y1), .val (.ref r1), .val (.ref r2), .val (.ref r3), .val (.ref r4), .val (.ref b5), .unset, .unset] [(.ref b5)])) _
    refine XS.aload X8.here hx rfl (hb hby at_269) rfl rfl ?_
    show Steps p.tables e below (T8.setTop (mkF m 271 #[.val (.int p1), .val (.int p2), .val (.int p3), .val (.int p4), .val (.int u0), .val (.int u1), .val (.int nl), .val (.int el), .val (.int x0), .val (.int x1), .val (.int l0), .val (.int l1), .val (.int ll), .val (.int fl), .val (.int y0), .val (.int y1), .val (.ref r1), .val (.ref r2), .val (.ref r3), .val (.ref r4), .val (.ref b5), .unset, .unset] [(.ref r3), (.ref b5)])) _
    refine XS.aload X8.here hx rfl (hb hby at_271) rfl rfl ?_
    show Steps p.tables e below (T8.setTop (mkF m 273 #[.val (.int p1), .val (.int p2), .val (.int p3), .val (.int p4), .val (.int u0), .val (.int u1), .val (.int nl), .val (.int el), .val (.int x0), .val (.int x1), .val (.int l0), .val (.int l1), .val (.int ll), .val (.int fl), .val (.int y0), .val (.int y1), .val (.ref r1), .val (.ref r2), .val (.ref r3), .val (.ref r4), .val (.ref b5), .unset, .unset] [(.ref r4), (.ref r3), (.ref b5)])) _
    exact k
  -- pc 273: org/bindery/DocumentElement.is
  obtain ⟨cq9, kq9, q9a, q9b, q9c⟩ := isOf hZ rfl A5
  obtain ⟨_, _, ⟨T9, L9, k9, n9⟩, -, X9, ⟨Lc9, hQ9, l9, y9, z9⟩, st9⟩ := X8.virtualBack hx (y := (⟨"org/bindery/DocumentElement", "is", "(Ljava/lang/String;Ljava/lang/String;)Z"⟩ : MethodName)) (z := (⟨"org/bindery/DocumentElement", "is", "(Ljava/lang/String;Ljava/lang/String;)Z"⟩ : MethodName)) hown (mvT hZ (hw _ (List.mem_of_getElem? (i := 57) rfl))) (mvT hZ (hw _ (List.mem_of_getElem? (i := 58) rfl))) (notFace_of_selects (args := #[]) (mvT hZ (hw _ (List.mem_of_getElem? (i := 60) rfl)))) (mvT hZ (hw _ (List.mem_of_getElem? (i := 60) rfl))) (mvT hZ (hw _ (List.mem_of_getElem? (i := 59) rfl))) (by decide) (backOf (W := 0) (rmIs l Z a0 hw [] b5 r1 t1 k1 cs1 r2 t2 k2 cs2 r3 t3 k3 cs3 r4 t4 k4 cs4 zc T8.heap n0 O Gq8_0 Gq8_1 Gq1_0 Gq1_1 Gq1_2 Gq1_3 Gq2_0 Gq2_1 Gq2_2 Gq2_3 Gq3_0 Gq3_1 Gq3_2 Gq3_3 Gq4_0 Gq4_1 Gq4_2 Gq4_3 S_C hcs cq1_1 cq1_2 cq2_1 cq2_2 cq3_1 cq3_2 cq4_1 cq4_2) hZ (hw _ (List.mem_of_getElem? (i := 61) rfl)) (hw _ (List.mem_of_getElem? (i := 28) rfl)) (by decide) (by decide)) q9a q9c (g := (mkF m 273 #[.val (.int p1), .val (.int p2), .val (.int p3), .val (.int p4), .val (.int u0), .val (.int u1), .val (.int nl), .val (.int el), .val (.int x0), .val (.int x1), .val (.int l0), .val (.int l1), .val (.int ll), .val (.int fl), .val (.int y0), .val (.int y1), .val (.ref r1), .val (.ref r2), .val (.ref r3), .val (.ref r4), .val (.ref b5), .unset, .unset] [(.ref r4), (.ref r3), (.ref b5)])) rfl (by rw [hml]; rfl) (Steps.refl _) (argsL := [(.ref r3), (.ref r4)]) (rest := []) (lenOf pd_7 rfl) rfl (by show 2 * 0 + _ ≤ _; exact Nat.le_of_eq rfl) (hb hby at_273) (fun _ hWm => ⟨rfl, rfl, (by decide : 18 + 0 ≤ _), (by decide : 38 + 0 ≤ _)⟩)
  dsimp only [Pt.U, Pt.locs, Pt.cells, Pt.slots] at X9 l9 y9 z9 st9 hQ9
  subst l9 y9 z9
  obtain ⟨b9, rfl, Nq9, Kq9, cq9_0, cq9_1⟩ := hQ9
  replace N := Fr.app N Nq9
  refine own_go (B := T9.setTop (mkF m 276 #[.val (.int p1), .val (.int p2), .val (.int p3), .val (.int p4), .val (.int u0), .val (.int u1), .val (.int nl), .val (.int el), .val (.int x0), .val (.int x1), .val (.int l0), .val (.int l1), .val (.int ll), .val (.int fl), .val (.int y0), .val (.int y1), .val (.ref r1), .val (.ref r2), .val (.ref r3), .val (.ref r4), .val (.ref b5), .unset, .unset] [(.int b9)])) (fun t k => st9.trans k) ?_
  refine own_go (B := T9.setTop (mkF m 278 #[.val (.int p1), .val (.int p2), .val (.int p3), .val (.int p4), .val (.int u0), .val (.int u1), .val (.int nl), .val (.int el), .val (.int x0), .val (.int x1), .val (.int l0), .val (.int l1), .val (.int ll), .val (.int fl), .val (.int y0), .val (.int y1), .val (.ref r1), .val (.ref r2), .val (.ref r3), .val (.ref r4), .val (.ref b5), .val (.int b9), .unset] [])) (fun t k => ?_) ?_
  · show Steps p.tables e below (T9.setTop (mkF m 276 #[.val (.int p1), .val (.int p2), .val (.int p3), .val (.int p4), .val (.int u0), .val (.int u1), .val (.int nl), .val (.int el), .val (.int x0), .val (.int x1), .val (.int l0), .val (.int l1), .val (.int ll), .val (.int fl), .val (.int y0), .val (.int y1), .val (.ref r1), .val (.ref r2), .val (.ref r3), .val (.ref r4), .val (.ref b5), .unset, .unset] [(.int b9)])) _
    refine XS.istore X9.here hx rfl (hb hby at_276) rfl (l' := #[.val (.int p1), .val (.int p2), .val (.int p3), .val (.int p4), .val (.int u0), .val (.int u1), .val (.int nl), .val (.int el), .val (.int x0), .val (.int x1), .val (.int l0), .val (.int l1), .val (.int ll), .val (.int fl), .val (.int y0), .val (.int y1), .val (.ref r1), .val (.ref r2), .val (.ref r3), .val (.ref r4), .val (.ref b5), .val (.int b9), .unset]) rfl ?_
    show Steps p.tables e below (T9.setTop (mkF m 278 #[.val (.int p1), .val (.int p2), .val (.int p3), .val (.int p4), .val (.int u0), .val (.int u1), .val (.int nl), .val (.int el), .val (.int x0), .val (.int x1), .val (.int l0), .val (.int l1), .val (.int ll), .val (.int fl), .val (.int y0), .val (.int y1), .val (.ref r1), .val (.ref r2), .val (.ref r3), .val (.ref r4), .val (.ref b5), .val (.int b9), .unset] [])) _
    exact k
  have hE : (cs1 = cs3 ∧ cs2 = cs4) ↔ (own_cs nl u0 u1 = own_cs el x0 x1 ∧ own_cs ll l0 l1 = own_cs fl y0 y1) := by rw [cq1_0, cq3_0, cq2_0, cq4_0]
  by_cases q1 : own_cs nl u0 u1 = own_cs el x0 x1
  · by_cases q2 : own_cs ll l0 l1 = own_cs fl y0 y1
    · refine own_go (B := T9.setTop (mkF m 290 #[.val (.int p1), .val (.int p2), .val (.int p3), .val (.int p4), .val (.int u0), .val (.int u1), .val (.int nl), .val (.int el), .val (.int x0), .val (.int x1), .val (.int l0), .val (.int l1), .val (.int ll), .val (.int fl), .val (.int y0), .val (.int y1), .val (.ref r1), .val (.ref r2), .val (.ref r3), .val (.ref r4), .val (.ref b5), .val (.int b9), .unset] [(.int x1), (.int x0), (.int el), (.int u1), (.int u0), (.int nl)])) (fun t k => ?_) ?_
      · show Steps p.tables e below (T9.setTop (mkF m 278 #[.val (.int p1), .val (.int p2), .val (.int p3), .val (.int p4), .val (.int u0), .val (.int u1), .val (.int nl), .val (.int el), .val (.int x0), .val (.int x1), .val (.int l0), .val (.int l1), .val (.int ll), .val (.int fl), .val (.int y0), .val (.int y1), .val (.ref r1), .val (.ref r2), .val (.ref r3), .val (.ref r4), .val (.ref b5), .val (.int b9), .unset] [])) _
        refine XS.iload X9.here hx rfl (hb hby at_278) rfl ?_
        show Steps p.tables e below (T9.setTop (mkF m 280 #[.val (.int p1), .val (.int p2), .val (.int p3), .val (.int p4), .val (.int u0), .val (.int u1), .val (.int nl), .val (.int el), .val (.int x0), .val (.int x1), .val (.int l0), .val (.int l1), .val (.int ll), .val (.int fl), .val (.int y0), .val (.int y1), .val (.ref r1), .val (.ref r2), .val (.ref r3), .val (.ref r4), .val (.ref b5), .val (.int b9), .unset] [(.int nl)])) _
        refine XS.iload X9.here hx rfl (hb hby at_280) rfl ?_
        show Steps p.tables e below (T9.setTop (mkF m 282 #[.val (.int p1), .val (.int p2), .val (.int p3), .val (.int p4), .val (.int u0), .val (.int u1), .val (.int nl), .val (.int el), .val (.int x0), .val (.int x1), .val (.int l0), .val (.int l1), .val (.int ll), .val (.int fl), .val (.int y0), .val (.int y1), .val (.ref r1), .val (.ref r2), .val (.ref r3), .val (.ref r4), .val (.ref b5), .val (.int b9), .unset] [(.int u0), (.int nl)])) _
        refine XS.iload X9.here hx rfl (hb hby at_282) rfl ?_
        show Steps p.tables e below (T9.setTop (mkF m 284 #[.val (.int p1), .val (.int p2), .val (.int p3), .val (.int p4), .val (.int u0), .val (.int u1), .val (.int nl), .val (.int el), .val (.int x0), .val (.int x1), .val (.int l0), .val (.int l1), .val (.int ll), .val (.int fl), .val (.int y0), .val (.int y1), .val (.ref r1), .val (.ref r2), .val (.ref r3), .val (.ref r4), .val (.ref b5), .val (.int b9), .unset] [(.int u1), (.int u0), (.int nl)])) _
        refine XS.iload X9.here hx rfl (hb hby at_284) rfl ?_
        show Steps p.tables e below (T9.setTop (mkF m 286 #[.val (.int p1), .val (.int p2), .val (.int p3), .val (.int p4), .val (.int u0), .val (.int u1), .val (.int nl), .val (.int el), .val (.int x0), .val (.int x1), .val (.int l0), .val (.int l1), .val (.int ll), .val (.int fl), .val (.int y0), .val (.int y1), .val (.ref r1), .val (.ref r2), .val (.ref r3), .val (.ref r4), .val (.ref b5), .val (.int b9), .unset] [(.int el), (.int u1), (.int u0), (.int nl)])) _
        refine XS.iload X9.here hx rfl (hb hby at_286) rfl ?_
        show Steps p.tables e below (T9.setTop (mkF m 288 #[.val (.int p1), .val (.int p2), .val (.int p3), .val (.int p4), .val (.int u0), .val (.int u1), .val (.int nl), .val (.int el), .val (.int x0), .val (.int x1), .val (.int l0), .val (.int l1), .val (.int ll), .val (.int fl), .val (.int y0), .val (.int y1), .val (.ref r1), .val (.ref r2), .val (.ref r3), .val (.ref r4), .val (.ref b5), .val (.int b9), .unset] [(.int x0), (.int el), (.int u1), (.int u0), (.int nl)])) _
        refine XS.iload X9.here hx rfl (hb hby at_288) rfl ?_
        show Steps p.tables e below (T9.setTop (mkF m 290 #[.val (.int p1), .val (.int p2), .val (.int p3), .val (.int p4), .val (.int u0), .val (.int u1), .val (.int nl), .val (.int el), .val (.int x0), .val (.int x1), .val (.int l0), .val (.int l1), .val (.int ll), .val (.int fl), .val (.int y0), .val (.int y1), .val (.ref r1), .val (.ref r2), .val (.ref r3), .val (.ref r4), .val (.ref b5), .val (.int b9), .unset] [(.int x1), (.int x0), (.int el), (.int u1), (.int u0), (.int nl)])) _
        exact k
      -- pc 290: org/bindery/DocumentElementIsPinLaw.same
      obtain ⟨_, _, ⟨T10, L10, k10, n10⟩, -, X10, ⟨Lc10, hQ10, l10, y10, z10⟩, st10⟩ := Jvm.LawKit.callS X9 hx (y := (⟨"org/bindery/DocumentElementIsPinLaw", "same", "(IIIIII)Z"⟩ : MethodName)) hown (mvT hZ (hw _ (List.mem_of_getElem? (i := 73) rfl))) (mvT hZ (hw _ (List.mem_of_getElem? (i := 74) rfl))) (mvT hZ (hw _ (List.mem_of_getElem? (i := 2) rfl))) (mvT hZ (hw _ (List.mem_of_getElem? (i := 75) rfl))) (by decide) (backOf (W := 0) (rmSame l Z a0 hw [] nl u0 u1 el x0 x1 T8.heap n0 O bnl bel) hZ (hw _ (List.mem_of_getElem? (i := 75) rfl)) (hw _ (List.mem_of_getElem? (i := 2) rfl)) (by decide) (by decide)) (g := (mkF m 290 #[.val (.int p1), .val (.int p2), .val (.int p3), .val (.int p4), .val (.int u0), .val (.int u1), .val (.int nl), .val (.int el), .val (.int x0), .val (.int x1), .val (.int l0), .val (.int l1), .val (.int ll), .val (.int fl), .val (.int y0), .val (.int y1), .val (.ref r1), .val (.ref r2), .val (.ref r3), .val (.ref r4), .val (.ref b5), .val (.int b9), .unset] [(.int x1), (.int x0), (.int el), (.int u1), (.int u0), (.int nl)])) rfl (by rw [hml]; rfl) (argsL := [(.int nl), (.int u0), (.int u1), (.int el), (.int x0), (.int x1)]) (rest := []) (lenOf pd_8 rfl) rfl (by show 2 * 0 + _ ≤ _; exact Nat.le_of_eq rfl) (hb hby at_290) (fun _ hWm => ⟨rfl, Kq9, (by decide : 18 + 0 ≤ _), (by decide : 38 + 0 ≤ _)⟩)
      dsimp only [Pt.U, Pt.locs, Pt.cells, Pt.slots] at X10 l10 y10 z10 st10 hQ10
      subst l10 y10 z10
      obtain ⟨b10, rfl, Nq10, Kq10, cq10_0, cq10_1⟩ := hQ10
      replace N := Fr.app N Nq10
      refine own_go (B := T10.setTop (mkF m 293 #[.val (.int p1), .val (.int p2), .val (.int p3), .val (.int p4), .val (.int u0), .val (.int u1), .val (.int nl), .val (.int el), .val (.int x0), .val (.int x1), .val (.int l0), .val (.int l1), .val (.int ll), .val (.int fl), .val (.int y0), .val (.int y1), .val (.ref r1), .val (.ref r2), .val (.ref r3), .val (.ref r4), .val (.ref b5), .val (.int b9), .unset] [(.int b10)])) st10 ?_
      refine own_go (B := T10.setTop (mkF m 308 #[.val (.int p1), .val (.int p2), .val (.int p3), .val (.int p4), .val (.int u0), .val (.int u1), .val (.int nl), .val (.int el), .val (.int x0), .val (.int x1), .val (.int l0), .val (.int l1), .val (.int ll), .val (.int fl), .val (.int y0), .val (.int y1), .val (.ref r1), .val (.ref r2), .val (.ref r3), .val (.ref r4), .val (.ref b5), .val (.int b9), .unset] [(.int y1), (.int y0), (.int fl), (.int l1), (.int l0), (.int ll)])) (fun t k => ?_) ?_
      · show Steps p.tables e below (T10.setTop (mkF m 293 #[.val (.int p1), .val (.int p2), .val (.int p3), .val (.int p4), .val (.int u0), .val (.int u1), .val (.int nl), .val (.int el), .val (.int x0), .val (.int x1), .val (.int l0), .val (.int l1), .val (.int ll), .val (.int fl), .val (.int y0), .val (.int y1), .val (.ref r1), .val (.ref r2), .val (.ref r3), .val (.ref r4), .val (.ref b5), .val (.int b9), .unset] [(.int b10)])) _
        refine XS.ifNo X10.here hx rfl (hb hby at_293) rfl ((if0 _ _).trans (feq (by rw [cq10_0 q1]; decide)).1) ?_
        show Steps p.tables e below (T10.setTop (mkF m 296 #[.val (.int p1), .val (.int p2), .val (.int p3), .val (.int p4), .val (.int u0), .val (.int u1), .val (.int nl), .val (.int el), .val (.int x0), .val (.int x1), .val (.int l0), .val (.int l1), .val (.int ll), .val (.int fl), .val (.int y0), .val (.int y1), .val (.ref r1), .val (.ref r2), .val (.ref r3), .val (.ref r4), .val (.ref b5), .val (.int b9), .unset] [])) _
        refine XS.iload X10.here hx rfl (hb hby at_296) rfl ?_
        show Steps p.tables e below (T10.setTop (mkF m 298 #[.val (.int p1), .val (.int p2), .val (.int p3), .val (.int p4), .val (.int u0), .val (.int u1), .val (.int nl), .val (.int el), .val (.int x0), .val (.int x1), .val (.int l0), .val (.int l1), .val (.int ll), .val (.int fl), .val (.int y0), .val (.int y1), .val (.ref r1), .val (.ref r2), .val (.ref r3), .val (.ref r4), .val (.ref b5), .val (.int b9), .unset] [(.int ll)])) _
        refine XS.iload X10.here hx rfl (hb hby at_298) rfl ?_
        show Steps p.tables e below (T10.setTop (mkF m 300 #[.val (.int p1), .val (.int p2), .val (.int p3), .val (.int p4), .val (.int u0), .val (.int u1), .val (.int nl), .val (.int el), .val (.int x0), .val (.int x1), .val (.int l0), .val (.int l1), .val (.int ll), .val (.int fl), .val (.int y0), .val (.int y1), .val (.ref r1), .val (.ref r2), .val (.ref r3), .val (.ref r4), .val (.ref b5), .val (.int b9), .unset] [(.int l0), (.int ll)])) _
        refine XS.iload X10.here hx rfl (hb hby at_300) rfl ?_
        show Steps p.tables e below (T10.setTop (mkF m 302 #[.val (.int p1), .val (.int p2), .val (.int p3), .val (.int p4), .val (.int u0), .val (.int u1), .val (.int nl), .val (.int el), .val (.int x0), .val (.int x1), .val (.int l0), .val (.int l1), .val (.int ll), .val (.int fl), .val (.int y0), .val (.int y1), .val (.ref r1), .val (.ref r2), .val (.ref r3), .val (.ref r4), .val (.ref b5), .val (.int b9), .unset] [(.int l1), (.int l0), (.int ll)])) _
        refine XS.iload X10.here hx rfl (hb hby at_302) rfl ?_
        show Steps p.tables e below (T10.setTop (mkF m 304 #[.val (.int p1), .val (.int p2), .val (.int p3), .val (.int p4), .val (.int u0), .val (.int u1), .val (.int nl), .val (.int el), .val (.int x0), .val (.int x1), .val (.int l0), .val (.int l1), .val (.int ll), .val (.int fl), .val (.int y0), .val (.int y1), .val (.ref r1), .val (.ref r2), .val (.ref r3), .val (.ref r4), .val (.ref b5), .val (.int b9), .unset] [(.int fl), (.int l1), (.int l0), (.int ll)])) _
        refine XS.iload X10.here hx rfl (hb hby at_304) rfl ?_
        show Steps p.tables e below (T10.setTop (mkF m 306 #[.val (.int p1), .val (.int p2), .val (.int p3), .val (.int p4), .val (.int u0), .val (.int u1), .val (.int nl), .val (.int el), .val (.int x0), .val (.int x1), .val (.int l0), .val (.int l1), .val (.int ll), .val (.int fl), .val (.int y0), .val (.int y1), .val (.ref r1), .val (.ref r2), .val (.ref r3), .val (.ref r4), .val (.ref b5), .val (.int b9), .unset] [(.int y0), (.int fl), (.int l1), (.int l0), (.int ll)])) _
        refine XS.iload X10.here hx rfl (hb hby at_306) rfl ?_
        show Steps p.tables e below (T10.setTop (mkF m 308 #[.val (.int p1), .val (.int p2), .val (.int p3), .val (.int p4), .val (.int u0), .val (.int u1), .val (.int nl), .val (.int el), .val (.int x0), .val (.int x1), .val (.int l0), .val (.int l1), .val (.int ll), .val (.int fl), .val (.int y0), .val (.int y1), .val (.ref r1), .val (.ref r2), .val (.ref r3), .val (.ref r4), .val (.ref b5), .val (.int b9), .unset] [(.int y1), (.int y0), (.int fl), (.int l1), (.int l0), (.int ll)])) _
        exact k
      -- pc 308: org/bindery/DocumentElementIsPinLaw.same
      obtain ⟨_, _, ⟨T11, L11, k11, n11⟩, -, X11, ⟨Lc11, hQ11, l11, y11, z11⟩, st11⟩ := Jvm.LawKit.callS X10 hx (y := (⟨"org/bindery/DocumentElementIsPinLaw", "same", "(IIIIII)Z"⟩ : MethodName)) hown (mvT hZ (hw _ (List.mem_of_getElem? (i := 73) rfl))) (mvT hZ (hw _ (List.mem_of_getElem? (i := 74) rfl))) (mvT hZ (hw _ (List.mem_of_getElem? (i := 2) rfl))) (mvT hZ (hw _ (List.mem_of_getElem? (i := 75) rfl))) (by decide) (backOf (W := 0) (rmSame l Z a0 hw [] ll l0 l1 fl y0 y1 T8.heap n0 O bll bfl) hZ (hw _ (List.mem_of_getElem? (i := 75) rfl)) (hw _ (List.mem_of_getElem? (i := 2) rfl)) (by decide) (by decide)) (g := (mkF m 308 #[.val (.int p1), .val (.int p2), .val (.int p3), .val (.int p4), .val (.int u0), .val (.int u1), .val (.int nl), .val (.int el), .val (.int x0), .val (.int x1), .val (.int l0), .val (.int l1), .val (.int ll), .val (.int fl), .val (.int y0), .val (.int y1), .val (.ref r1), .val (.ref r2), .val (.ref r3), .val (.ref r4), .val (.ref b5), .val (.int b9), .unset] [(.int y1), (.int y0), (.int fl), (.int l1), (.int l0), (.int ll)])) rfl (by rw [hml]; rfl) (argsL := [(.int ll), (.int l0), (.int l1), (.int fl), (.int y0), (.int y1)]) (rest := []) (lenOf pd_8 rfl) rfl (by show 2 * 0 + _ ≤ _; exact Nat.le_of_eq rfl) (hb hby at_308) (fun _ hWm => ⟨rfl, Kq10, (by decide : 18 + 0 ≤ _), (by decide : 38 + 0 ≤ _)⟩)
      dsimp only [Pt.U, Pt.locs, Pt.cells, Pt.slots] at X11 l11 y11 z11 st11 hQ11
      subst l11 y11 z11
      obtain ⟨b11, rfl, Nq11, Kq11, cq11_0, cq11_1⟩ := hQ11
      replace N := Fr.app N Nq11
      refine own_go (B := T11.setTop (mkF m 311 #[.val (.int p1), .val (.int p2), .val (.int p3), .val (.int p4), .val (.int u0), .val (.int u1), .val (.int nl), .val (.int el), .val (.int x0), .val (.int x1), .val (.int l0), .val (.int l1), .val (.int ll), .val (.int fl), .val (.int y0), .val (.int y1), .val (.ref r1), .val (.ref r2), .val (.ref r3), .val (.ref r4), .val (.ref b5), .val (.int b9), .unset] [(.int b11)])) st11 ?_
      refine own_go (B := T11.setTop (mkF m 333 #[.val (.int p1), .val (.int p2), .val (.int p3), .val (.int p4), .val (.int u0), .val (.int u1), .val (.int nl), .val (.int el), .val (.int x0), .val (.int x1), .val (.int l0), .val (.int l1), .val (.int ll), .val (.int fl), .val (.int y0), .val (.int y1), .val (.ref r1), .val (.ref r2), .val (.ref r3), .val (.ref r4), .val (.ref b5), .val (.int b9), .val (.int (1 : Int32))] [(.int (1 : Int32))])) (fun t k => ?_) ?_
      · show Steps p.tables e below (T11.setTop (mkF m 311 #[.val (.int p1), .val (.int p2), .val (.int p3), .val (.int p4), .val (.int u0), .val (.int u1), .val (.int nl), .val (.int el), .val (.int x0), .val (.int x1), .val (.int l0), .val (.int l1), .val (.int ll), .val (.int fl), .val (.int y0), .val (.int y1), .val (.ref r1), .val (.ref r2), .val (.ref r3), .val (.ref r4), .val (.ref b5), .val (.int b9), .unset] [(.int b11)])) _
        refine XS.ifNo X11.here hx rfl (hb hby at_311) rfl ((if0 _ _).trans (feq (by rw [cq11_0 q2]; decide)).1) ?_
        show Steps p.tables e below (T11.setTop (mkF m 314 #[.val (.int p1), .val (.int p2), .val (.int p3), .val (.int p4), .val (.int u0), .val (.int u1), .val (.int nl), .val (.int el), .val (.int x0), .val (.int x1), .val (.int l0), .val (.int l1), .val (.int ll), .val (.int fl), .val (.int y0), .val (.int y1), .val (.ref r1), .val (.ref r2), .val (.ref r3), .val (.ref r4), .val (.ref b5), .val (.int b9), .unset] [])) _
        refine XS.iconst X11.here hx rfl (hb hby at_314) ?_
        show Steps p.tables e below (T11.setTop (mkF m 315 #[.val (.int p1), .val (.int p2), .val (.int p3), .val (.int p4), .val (.int u0), .val (.int u1), .val (.int nl), .val (.int el), .val (.int x0), .val (.int x1), .val (.int l0), .val (.int l1), .val (.int ll), .val (.int fl), .val (.int y0), .val (.int y1), .val (.ref r1), .val (.ref r2), .val (.ref r3), .val (.ref r4), .val (.ref b5), .val (.int b9), .unset] [(.int (1 : Int32))])) _
        refine XS.goto X11.here hx rfl (pc0 := 315) (pc' := 319) rfl (hb hby at_315) (by decide) (by decide) ?_
        show Steps p.tables e below (T11.setTop (mkF m 319 #[.val (.int p1), .val (.int p2), .val (.int p3), .val (.int p4), .val (.int u0), .val (.int u1), .val (.int nl), .val (.int el), .val (.int x0), .val (.int x1), .val (.int l0), .val (.int l1), .val (.int ll), .val (.int fl), .val (.int y0), .val (.int y1), .val (.ref r1), .val (.ref r2), .val (.ref r3), .val (.ref r4), .val (.ref b5), .val (.int b9), .unset] [(.int (1 : Int32))])) _
        refine XS.istore X11.here hx rfl (hb hby at_319) rfl (l' := #[.val (.int p1), .val (.int p2), .val (.int p3), .val (.int p4), .val (.int u0), .val (.int u1), .val (.int nl), .val (.int el), .val (.int x0), .val (.int x1), .val (.int l0), .val (.int l1), .val (.int ll), .val (.int fl), .val (.int y0), .val (.int y1), .val (.ref r1), .val (.ref r2), .val (.ref r3), .val (.ref r4), .val (.ref b5), .val (.int b9), .val (.int (1 : Int32))]) rfl ?_
        show Steps p.tables e below (T11.setTop (mkF m 321 #[.val (.int p1), .val (.int p2), .val (.int p3), .val (.int p4), .val (.int u0), .val (.int u1), .val (.int nl), .val (.int el), .val (.int x0), .val (.int x1), .val (.int l0), .val (.int l1), .val (.int ll), .val (.int fl), .val (.int y0), .val (.int y1), .val (.ref r1), .val (.ref r2), .val (.ref r3), .val (.ref r4), .val (.ref b5), .val (.int b9), .val (.int (1 : Int32))] [])) _
        refine XS.iload X11.here hx rfl (hb hby at_321) rfl ?_
        show Steps p.tables e below (T11.setTop (mkF m 323 #[.val (.int p1), .val (.int p2), .val (.int p3), .val (.int p4), .val (.int u0), .val (.int u1), .val (.int nl), .val (.int el), .val (.int x0), .val (.int x1), .val (.int l0), .val (.int l1), .val (.int ll), .val (.int fl), .val (.int y0), .val (.int y1), .val (.ref r1), .val (.ref r2), .val (.ref r3), .val (.ref r4), .val (.ref b5), .val (.int b9), .val (.int (1 : Int32))] [(.int b9)])) _
        refine XS.iload X11.here hx rfl (hb hby at_323) rfl ?_
        show Steps p.tables e below (T11.setTop (mkF m 325 #[.val (.int p1), .val (.int p2), .val (.int p3), .val (.int p4), .val (.int u0), .val (.int u1), .val (.int nl), .val (.int el), .val (.int x0), .val (.int x1), .val (.int l0), .val (.int l1), .val (.int ll), .val (.int fl), .val (.int y0), .val (.int y1), .val (.ref r1), .val (.ref r2), .val (.ref r3), .val (.ref r4), .val (.ref b5), .val (.int b9), .val (.int (1 : Int32))] [(.int (1 : Int32)), (.int b9)])) _
        refine XS.icmpNo X11.here hx rfl (hb hby at_325) rfl (teq (cq9_0 (hE.mpr ⟨q1, q2⟩))).2 ?_
        show Steps p.tables e below (T11.setTop (mkF m 328 #[.val (.int p1), .val (.int p2), .val (.int p3), .val (.int p4), .val (.int u0), .val (.int u1), .val (.int nl), .val (.int el), .val (.int x0), .val (.int x1), .val (.int l0), .val (.int l1), .val (.int ll), .val (.int fl), .val (.int y0), .val (.int y1), .val (.ref r1), .val (.ref r2), .val (.ref r3), .val (.ref r4), .val (.ref b5), .val (.int b9), .val (.int (1 : Int32))] [])) _
        refine XS.iconst X11.here hx rfl (hb hby at_328) ?_
        show Steps p.tables e below (T11.setTop (mkF m 329 #[.val (.int p1), .val (.int p2), .val (.int p3), .val (.int p4), .val (.int u0), .val (.int u1), .val (.int nl), .val (.int el), .val (.int x0), .val (.int x1), .val (.int l0), .val (.int l1), .val (.int ll), .val (.int fl), .val (.int y0), .val (.int y1), .val (.ref r1), .val (.ref r2), .val (.ref r3), .val (.ref r4), .val (.ref b5), .val (.int b9), .val (.int (1 : Int32))] [(.int (1 : Int32))])) _
        refine XS.goto X11.here hx rfl (pc0 := 329) (pc' := 333) rfl (hb hby at_329) (by decide) (by decide) ?_
        show Steps p.tables e below (T11.setTop (mkF m 333 #[.val (.int p1), .val (.int p2), .val (.int p3), .val (.int p4), .val (.int u0), .val (.int u1), .val (.int nl), .val (.int el), .val (.int x0), .val (.int x1), .val (.int l0), .val (.int l1), .val (.int ll), .val (.int fl), .val (.int y0), .val (.int y1), .val (.ref r1), .val (.ref r2), .val (.ref r3), .val (.ref r4), .val (.ref b5), .val (.int b9), .val (.int (1 : Int32))] [(.int (1 : Int32))])) _
        exact k
      obtain ⟨fs, hr, hrun, hended, hEnd⟩ := X11.leaveW hS (by rw [Kq11]; exact hk) (v := some (.int (1 : Int32))) (fun h => by rw [Bd.returns] at h; cases h)
      refine ⟨_, _, retN X11 hx (t := .boolean) Bd.returns (by simp) (hb hby at_333) hr, hfin _ _ ⟨hrun, hended, _, _, rfl, ?_, hEnd.1, hEnd.2.1, hEnd.2.2.1, hEnd.2.2.2.mono (by decide) (by decide)⟩⟩
      show Q0 Z p1 p2 p3 p4 zc h0 n0 _ T11.heap _
      rw [Kq11]
      exact ⟨rfl, N⟩
    · refine own_go (B := T9.setTop (mkF m 290 #[.val (.int p1), .val (.int p2), .val (.int p3), .val (.int p4), .val (.int u0), .val (.int u1), .val (.int nl), .val (.int el), .val (.int x0), .val (.int x1), .val (.int l0), .val (.int l1), .val (.int ll), .val (.int fl), .val (.int y0), .val (.int y1), .val (.ref r1), .val (.ref r2), .val (.ref r3), .val (.ref r4), .val (.ref b5), .val (.int b9), .unset] [(.int x1), (.int x0), (.int el), (.int u1), (.int u0), (.int nl)])) (fun t k => ?_) ?_
      · show Steps p.tables e below (T9.setTop (mkF m 278 #[.val (.int p1), .val (.int p2), .val (.int p3), .val (.int p4), .val (.int u0), .val (.int u1), .val (.int nl), .val (.int el), .val (.int x0), .val (.int x1), .val (.int l0), .val (.int l1), .val (.int ll), .val (.int fl), .val (.int y0), .val (.int y1), .val (.ref r1), .val (.ref r2), .val (.ref r3), .val (.ref r4), .val (.ref b5), .val (.int b9), .unset] [])) _
        refine XS.iload X9.here hx rfl (hb hby at_278) rfl ?_
        show Steps p.tables e below (T9.setTop (mkF m 280 #[.val (.int p1), .val (.int p2), .val (.int p3), .val (.int p4), .val (.int u0), .val (.int u1), .val (.int nl), .val (.int el), .val (.int x0), .val (.int x1), .val (.int l0), .val (.int l1), .val (.int ll), .val (.int fl), .val (.int y0), .val (.int y1), .val (.ref r1), .val (.ref r2), .val (.ref r3), .val (.ref r4), .val (.ref b5), .val (.int b9), .unset] [(.int nl)])) _
        refine XS.iload X9.here hx rfl (hb hby at_280) rfl ?_
        show Steps p.tables e below (T9.setTop (mkF m 282 #[.val (.int p1), .val (.int p2), .val (.int p3), .val (.int p4), .val (.int u0), .val (.int u1), .val (.int nl), .val (.int el), .val (.int x0), .val (.int x1), .val (.int l0), .val (.int l1), .val (.int ll), .val (.int fl), .val (.int y0), .val (.int y1), .val (.ref r1), .val (.ref r2), .val (.ref r3), .val (.ref r4), .val (.ref b5), .val (.int b9), .unset] [(.int u0), (.int nl)])) _
        refine XS.iload X9.here hx rfl (hb hby at_282) rfl ?_
        show Steps p.tables e below (T9.setTop (mkF m 284 #[.val (.int p1), .val (.int p2), .val (.int p3), .val (.int p4), .val (.int u0), .val (.int u1), .val (.int nl), .val (.int el), .val (.int x0), .val (.int x1), .val (.int l0), .val (.int l1), .val (.int ll), .val (.int fl), .val (.int y0), .val (.int y1), .val (.ref r1), .val (.ref r2), .val (.ref r3), .val (.ref r4), .val (.ref b5), .val (.int b9), .unset] [(.int u1), (.int u0), (.int nl)])) _
        refine XS.iload X9.here hx rfl (hb hby at_284) rfl ?_
        show Steps p.tables e below (T9.setTop (mkF m 286 #[.val (.int p1), .val (.int p2), .val (.int p3), .val (.int p4), .val (.int u0), .val (.int u1), .val (.int nl), .val (.int el), .val (.int x0), .val (.int x1), .val (.int l0), .val (.int l1), .val (.int ll), .val (.int fl), .val (.int y0), .val (.int y1), .val (.ref r1), .val (.ref r2), .val (.ref r3), .val (.ref r4), .val (.ref b5), .val (.int b9), .unset] [(.int el), (.int u1), (.int u0), (.int nl)])) _
        refine XS.iload X9.here hx rfl (hb hby at_286) rfl ?_
        show Steps p.tables e below (T9.setTop (mkF m 288 #[.val (.int p1), .val (.int p2), .val (.int p3), .val (.int p4), .val (.int u0), .val (.int u1), .val (.int nl), .val (.int el), .val (.int x0), .val (.int x1), .val (.int l0), .val (.int l1), .val (.int ll), .val (.int fl), .val (.int y0), .val (.int y1), .val (.ref r1), .val (.ref r2), .val (.ref r3), .val (.ref r4), .val (.ref b5), .val (.int b9), .unset] [(.int x0), (.int el), (.int u1), (.int u0), (.int nl)])) _
        refine XS.iload X9.here hx rfl (hb hby at_288) rfl ?_
        show Steps p.tables e below (T9.setTop (mkF m 290 #[.val (.int p1), .val (.int p2), .val (.int p3), .val (.int p4), .val (.int u0), .val (.int u1), .val (.int nl), .val (.int el), .val (.int x0), .val (.int x1), .val (.int l0), .val (.int l1), .val (.int ll), .val (.int fl), .val (.int y0), .val (.int y1), .val (.ref r1), .val (.ref r2), .val (.ref r3), .val (.ref r4), .val (.ref b5), .val (.int b9), .unset] [(.int x1), (.int x0), (.int el), (.int u1), (.int u0), (.int nl)])) _
        exact k
      -- pc 290: org/bindery/DocumentElementIsPinLaw.same
      obtain ⟨_, _, ⟨T13, L13, k13, n13⟩, -, X13, ⟨Lc13, hQ13, l13, y13, z13⟩, st13⟩ := Jvm.LawKit.callS X9 hx (y := (⟨"org/bindery/DocumentElementIsPinLaw", "same", "(IIIIII)Z"⟩ : MethodName)) hown (mvT hZ (hw _ (List.mem_of_getElem? (i := 73) rfl))) (mvT hZ (hw _ (List.mem_of_getElem? (i := 74) rfl))) (mvT hZ (hw _ (List.mem_of_getElem? (i := 2) rfl))) (mvT hZ (hw _ (List.mem_of_getElem? (i := 75) rfl))) (by decide) (backOf (W := 0) (rmSame l Z a0 hw [] nl u0 u1 el x0 x1 T8.heap n0 O bnl bel) hZ (hw _ (List.mem_of_getElem? (i := 75) rfl)) (hw _ (List.mem_of_getElem? (i := 2) rfl)) (by decide) (by decide)) (g := (mkF m 290 #[.val (.int p1), .val (.int p2), .val (.int p3), .val (.int p4), .val (.int u0), .val (.int u1), .val (.int nl), .val (.int el), .val (.int x0), .val (.int x1), .val (.int l0), .val (.int l1), .val (.int ll), .val (.int fl), .val (.int y0), .val (.int y1), .val (.ref r1), .val (.ref r2), .val (.ref r3), .val (.ref r4), .val (.ref b5), .val (.int b9), .unset] [(.int x1), (.int x0), (.int el), (.int u1), (.int u0), (.int nl)])) rfl (by rw [hml]; rfl) (argsL := [(.int nl), (.int u0), (.int u1), (.int el), (.int x0), (.int x1)]) (rest := []) (lenOf pd_8 rfl) rfl (by show 2 * 0 + _ ≤ _; exact Nat.le_of_eq rfl) (hb hby at_290) (fun _ hWm => ⟨rfl, Kq9, (by decide : 18 + 0 ≤ _), (by decide : 38 + 0 ≤ _)⟩)
      dsimp only [Pt.U, Pt.locs, Pt.cells, Pt.slots] at X13 l13 y13 z13 st13 hQ13
      subst l13 y13 z13
      obtain ⟨b13, rfl, Nq13, Kq13, cq13_0, cq13_1⟩ := hQ13
      replace N := Fr.app N Nq13
      refine own_go (B := T13.setTop (mkF m 293 #[.val (.int p1), .val (.int p2), .val (.int p3), .val (.int p4), .val (.int u0), .val (.int u1), .val (.int nl), .val (.int el), .val (.int x0), .val (.int x1), .val (.int l0), .val (.int l1), .val (.int ll), .val (.int fl), .val (.int y0), .val (.int y1), .val (.ref r1), .val (.ref r2), .val (.ref r3), .val (.ref r4), .val (.ref b5), .val (.int b9), .unset] [(.int b13)])) st13 ?_
      refine own_go (B := T13.setTop (mkF m 308 #[.val (.int p1), .val (.int p2), .val (.int p3), .val (.int p4), .val (.int u0), .val (.int u1), .val (.int nl), .val (.int el), .val (.int x0), .val (.int x1), .val (.int l0), .val (.int l1), .val (.int ll), .val (.int fl), .val (.int y0), .val (.int y1), .val (.ref r1), .val (.ref r2), .val (.ref r3), .val (.ref r4), .val (.ref b5), .val (.int b9), .unset] [(.int y1), (.int y0), (.int fl), (.int l1), (.int l0), (.int ll)])) (fun t k => ?_) ?_
      · show Steps p.tables e below (T13.setTop (mkF m 293 #[.val (.int p1), .val (.int p2), .val (.int p3), .val (.int p4), .val (.int u0), .val (.int u1), .val (.int nl), .val (.int el), .val (.int x0), .val (.int x1), .val (.int l0), .val (.int l1), .val (.int ll), .val (.int fl), .val (.int y0), .val (.int y1), .val (.ref r1), .val (.ref r2), .val (.ref r3), .val (.ref r4), .val (.ref b5), .val (.int b9), .unset] [(.int b13)])) _
        refine XS.ifNo X13.here hx rfl (hb hby at_293) rfl ((if0 _ _).trans (feq (by rw [cq13_0 q1]; decide)).1) ?_
        show Steps p.tables e below (T13.setTop (mkF m 296 #[.val (.int p1), .val (.int p2), .val (.int p3), .val (.int p4), .val (.int u0), .val (.int u1), .val (.int nl), .val (.int el), .val (.int x0), .val (.int x1), .val (.int l0), .val (.int l1), .val (.int ll), .val (.int fl), .val (.int y0), .val (.int y1), .val (.ref r1), .val (.ref r2), .val (.ref r3), .val (.ref r4), .val (.ref b5), .val (.int b9), .unset] [])) _
        refine XS.iload X13.here hx rfl (hb hby at_296) rfl ?_
        show Steps p.tables e below (T13.setTop (mkF m 298 #[.val (.int p1), .val (.int p2), .val (.int p3), .val (.int p4), .val (.int u0), .val (.int u1), .val (.int nl), .val (.int el), .val (.int x0), .val (.int x1), .val (.int l0), .val (.int l1), .val (.int ll), .val (.int fl), .val (.int y0), .val (.int y1), .val (.ref r1), .val (.ref r2), .val (.ref r3), .val (.ref r4), .val (.ref b5), .val (.int b9), .unset] [(.int ll)])) _
        refine XS.iload X13.here hx rfl (hb hby at_298) rfl ?_
        show Steps p.tables e below (T13.setTop (mkF m 300 #[.val (.int p1), .val (.int p2), .val (.int p3), .val (.int p4), .val (.int u0), .val (.int u1), .val (.int nl), .val (.int el), .val (.int x0), .val (.int x1), .val (.int l0), .val (.int l1), .val (.int ll), .val (.int fl), .val (.int y0), .val (.int y1), .val (.ref r1), .val (.ref r2), .val (.ref r3), .val (.ref r4), .val (.ref b5), .val (.int b9), .unset] [(.int l0), (.int ll)])) _
        refine XS.iload X13.here hx rfl (hb hby at_300) rfl ?_
        show Steps p.tables e below (T13.setTop (mkF m 302 #[.val (.int p1), .val (.int p2), .val (.int p3), .val (.int p4), .val (.int u0), .val (.int u1), .val (.int nl), .val (.int el), .val (.int x0), .val (.int x1), .val (.int l0), .val (.int l1), .val (.int ll), .val (.int fl), .val (.int y0), .val (.int y1), .val (.ref r1), .val (.ref r2), .val (.ref r3), .val (.ref r4), .val (.ref b5), .val (.int b9), .unset] [(.int l1), (.int l0), (.int ll)])) _
        refine XS.iload X13.here hx rfl (hb hby at_302) rfl ?_
        show Steps p.tables e below (T13.setTop (mkF m 304 #[.val (.int p1), .val (.int p2), .val (.int p3), .val (.int p4), .val (.int u0), .val (.int u1), .val (.int nl), .val (.int el), .val (.int x0), .val (.int x1), .val (.int l0), .val (.int l1), .val (.int ll), .val (.int fl), .val (.int y0), .val (.int y1), .val (.ref r1), .val (.ref r2), .val (.ref r3), .val (.ref r4), .val (.ref b5), .val (.int b9), .unset] [(.int fl), (.int l1), (.int l0), (.int ll)])) _
        refine XS.iload X13.here hx rfl (hb hby at_304) rfl ?_
        show Steps p.tables e below (T13.setTop (mkF m 306 #[.val (.int p1), .val (.int p2), .val (.int p3), .val (.int p4), .val (.int u0), .val (.int u1), .val (.int nl), .val (.int el), .val (.int x0), .val (.int x1), .val (.int l0), .val (.int l1), .val (.int ll), .val (.int fl), .val (.int y0), .val (.int y1), .val (.ref r1), .val (.ref r2), .val (.ref r3), .val (.ref r4), .val (.ref b5), .val (.int b9), .unset] [(.int y0), (.int fl), (.int l1), (.int l0), (.int ll)])) _
        refine XS.iload X13.here hx rfl (hb hby at_306) rfl ?_
        show Steps p.tables e below (T13.setTop (mkF m 308 #[.val (.int p1), .val (.int p2), .val (.int p3), .val (.int p4), .val (.int u0), .val (.int u1), .val (.int nl), .val (.int el), .val (.int x0), .val (.int x1), .val (.int l0), .val (.int l1), .val (.int ll), .val (.int fl), .val (.int y0), .val (.int y1), .val (.ref r1), .val (.ref r2), .val (.ref r3), .val (.ref r4), .val (.ref b5), .val (.int b9), .unset] [(.int y1), (.int y0), (.int fl), (.int l1), (.int l0), (.int ll)])) _
        exact k
      -- pc 308: org/bindery/DocumentElementIsPinLaw.same
      obtain ⟨_, _, ⟨T14, L14, k14, n14⟩, -, X14, ⟨Lc14, hQ14, l14, y14, z14⟩, st14⟩ := Jvm.LawKit.callS X13 hx (y := (⟨"org/bindery/DocumentElementIsPinLaw", "same", "(IIIIII)Z"⟩ : MethodName)) hown (mvT hZ (hw _ (List.mem_of_getElem? (i := 73) rfl))) (mvT hZ (hw _ (List.mem_of_getElem? (i := 74) rfl))) (mvT hZ (hw _ (List.mem_of_getElem? (i := 2) rfl))) (mvT hZ (hw _ (List.mem_of_getElem? (i := 75) rfl))) (by decide) (backOf (W := 0) (rmSame l Z a0 hw [] ll l0 l1 fl y0 y1 T8.heap n0 O bll bfl) hZ (hw _ (List.mem_of_getElem? (i := 75) rfl)) (hw _ (List.mem_of_getElem? (i := 2) rfl)) (by decide) (by decide)) (g := (mkF m 308 #[.val (.int p1), .val (.int p2), .val (.int p3), .val (.int p4), .val (.int u0), .val (.int u1), .val (.int nl), .val (.int el), .val (.int x0), .val (.int x1), .val (.int l0), .val (.int l1), .val (.int ll), .val (.int fl), .val (.int y0), .val (.int y1), .val (.ref r1), .val (.ref r2), .val (.ref r3), .val (.ref r4), .val (.ref b5), .val (.int b9), .unset] [(.int y1), (.int y0), (.int fl), (.int l1), (.int l0), (.int ll)])) rfl (by rw [hml]; rfl) (argsL := [(.int ll), (.int l0), (.int l1), (.int fl), (.int y0), (.int y1)]) (rest := []) (lenOf pd_8 rfl) rfl (by show 2 * 0 + _ ≤ _; exact Nat.le_of_eq rfl) (hb hby at_308) (fun _ hWm => ⟨rfl, Kq13, (by decide : 18 + 0 ≤ _), (by decide : 38 + 0 ≤ _)⟩)
      dsimp only [Pt.U, Pt.locs, Pt.cells, Pt.slots] at X14 l14 y14 z14 st14 hQ14
      subst l14 y14 z14
      obtain ⟨b14, rfl, Nq14, Kq14, cq14_0, cq14_1⟩ := hQ14
      replace N := Fr.app N Nq14
      refine own_go (B := T14.setTop (mkF m 311 #[.val (.int p1), .val (.int p2), .val (.int p3), .val (.int p4), .val (.int u0), .val (.int u1), .val (.int nl), .val (.int el), .val (.int x0), .val (.int x1), .val (.int l0), .val (.int l1), .val (.int ll), .val (.int fl), .val (.int y0), .val (.int y1), .val (.ref r1), .val (.ref r2), .val (.ref r3), .val (.ref r4), .val (.ref b5), .val (.int b9), .unset] [(.int b14)])) st14 ?_
      refine own_go (B := T14.setTop (mkF m 333 #[.val (.int p1), .val (.int p2), .val (.int p3), .val (.int p4), .val (.int u0), .val (.int u1), .val (.int nl), .val (.int el), .val (.int x0), .val (.int x1), .val (.int l0), .val (.int l1), .val (.int ll), .val (.int fl), .val (.int y0), .val (.int y1), .val (.ref r1), .val (.ref r2), .val (.ref r3), .val (.ref r4), .val (.ref b5), .val (.int b9), .val (.int (0 : Int32))] [(.int (1 : Int32))])) (fun t k => ?_) ?_
      · show Steps p.tables e below (T14.setTop (mkF m 311 #[.val (.int p1), .val (.int p2), .val (.int p3), .val (.int p4), .val (.int u0), .val (.int u1), .val (.int nl), .val (.int el), .val (.int x0), .val (.int x1), .val (.int l0), .val (.int l1), .val (.int ll), .val (.int fl), .val (.int y0), .val (.int y1), .val (.ref r1), .val (.ref r2), .val (.ref r3), .val (.ref r4), .val (.ref b5), .val (.int b9), .unset] [(.int b14)])) _
        refine XS.ifYes X14.here hx rfl (pc0 := 311) (pc' := 318) rfl (hb hby at_311) rfl ((if0 _ _).trans (teq (cq14_1 q2)).1) (by decide) (by decide) ?_
        show Steps p.tables e below (T14.setTop (mkF m 318 #[.val (.int p1), .val (.int p2), .val (.int p3), .val (.int p4), .val (.int u0), .val (.int u1), .val (.int nl), .val (.int el), .val (.int x0), .val (.int x1), .val (.int l0), .val (.int l1), .val (.int ll), .val (.int fl), .val (.int y0), .val (.int y1), .val (.ref r1), .val (.ref r2), .val (.ref r3), .val (.ref r4), .val (.ref b5), .val (.int b9), .unset] [])) _
        refine XS.iconst X14.here hx rfl (hb hby at_318) ?_
        show Steps p.tables e below (T14.setTop (mkF m 319 #[.val (.int p1), .val (.int p2), .val (.int p3), .val (.int p4), .val (.int u0), .val (.int u1), .val (.int nl), .val (.int el), .val (.int x0), .val (.int x1), .val (.int l0), .val (.int l1), .val (.int ll), .val (.int fl), .val (.int y0), .val (.int y1), .val (.ref r1), .val (.ref r2), .val (.ref r3), .val (.ref r4), .val (.ref b5), .val (.int b9), .unset] [(.int (0 : Int32))])) _
        refine XS.istore X14.here hx rfl (hb hby at_319) rfl (l' := #[.val (.int p1), .val (.int p2), .val (.int p3), .val (.int p4), .val (.int u0), .val (.int u1), .val (.int nl), .val (.int el), .val (.int x0), .val (.int x1), .val (.int l0), .val (.int l1), .val (.int ll), .val (.int fl), .val (.int y0), .val (.int y1), .val (.ref r1), .val (.ref r2), .val (.ref r3), .val (.ref r4), .val (.ref b5), .val (.int b9), .val (.int (0 : Int32))]) rfl ?_
        show Steps p.tables e below (T14.setTop (mkF m 321 #[.val (.int p1), .val (.int p2), .val (.int p3), .val (.int p4), .val (.int u0), .val (.int u1), .val (.int nl), .val (.int el), .val (.int x0), .val (.int x1), .val (.int l0), .val (.int l1), .val (.int ll), .val (.int fl), .val (.int y0), .val (.int y1), .val (.ref r1), .val (.ref r2), .val (.ref r3), .val (.ref r4), .val (.ref b5), .val (.int b9), .val (.int (0 : Int32))] [])) _
        refine XS.iload X14.here hx rfl (hb hby at_321) rfl ?_
        show Steps p.tables e below (T14.setTop (mkF m 323 #[.val (.int p1), .val (.int p2), .val (.int p3), .val (.int p4), .val (.int u0), .val (.int u1), .val (.int nl), .val (.int el), .val (.int x0), .val (.int x1), .val (.int l0), .val (.int l1), .val (.int ll), .val (.int fl), .val (.int y0), .val (.int y1), .val (.ref r1), .val (.ref r2), .val (.ref r3), .val (.ref r4), .val (.ref b5), .val (.int b9), .val (.int (0 : Int32))] [(.int b9)])) _
        refine XS.iload X14.here hx rfl (hb hby at_323) rfl ?_
        show Steps p.tables e below (T14.setTop (mkF m 325 #[.val (.int p1), .val (.int p2), .val (.int p3), .val (.int p4), .val (.int u0), .val (.int u1), .val (.int nl), .val (.int el), .val (.int x0), .val (.int x1), .val (.int l0), .val (.int l1), .val (.int ll), .val (.int fl), .val (.int y0), .val (.int y1), .val (.ref r1), .val (.ref r2), .val (.ref r3), .val (.ref r4), .val (.ref b5), .val (.int b9), .val (.int (0 : Int32))] [(.int (0 : Int32)), (.int b9)])) _
        refine XS.icmpNo X14.here hx rfl (hb hby at_325) rfl (teq (cq9_1 (fun z => absurd (hE.mp z).2 q2))).2 ?_
        show Steps p.tables e below (T14.setTop (mkF m 328 #[.val (.int p1), .val (.int p2), .val (.int p3), .val (.int p4), .val (.int u0), .val (.int u1), .val (.int nl), .val (.int el), .val (.int x0), .val (.int x1), .val (.int l0), .val (.int l1), .val (.int ll), .val (.int fl), .val (.int y0), .val (.int y1), .val (.ref r1), .val (.ref r2), .val (.ref r3), .val (.ref r4), .val (.ref b5), .val (.int b9), .val (.int (0 : Int32))] [])) _
        refine XS.iconst X14.here hx rfl (hb hby at_328) ?_
        show Steps p.tables e below (T14.setTop (mkF m 329 #[.val (.int p1), .val (.int p2), .val (.int p3), .val (.int p4), .val (.int u0), .val (.int u1), .val (.int nl), .val (.int el), .val (.int x0), .val (.int x1), .val (.int l0), .val (.int l1), .val (.int ll), .val (.int fl), .val (.int y0), .val (.int y1), .val (.ref r1), .val (.ref r2), .val (.ref r3), .val (.ref r4), .val (.ref b5), .val (.int b9), .val (.int (0 : Int32))] [(.int (1 : Int32))])) _
        refine XS.goto X14.here hx rfl (pc0 := 329) (pc' := 333) rfl (hb hby at_329) (by decide) (by decide) ?_
        show Steps p.tables e below (T14.setTop (mkF m 333 #[.val (.int p1), .val (.int p2), .val (.int p3), .val (.int p4), .val (.int u0), .val (.int u1), .val (.int nl), .val (.int el), .val (.int x0), .val (.int x1), .val (.int l0), .val (.int l1), .val (.int ll), .val (.int fl), .val (.int y0), .val (.int y1), .val (.ref r1), .val (.ref r2), .val (.ref r3), .val (.ref r4), .val (.ref b5), .val (.int b9), .val (.int (0 : Int32))] [(.int (1 : Int32))])) _
        exact k
      obtain ⟨fs, hr, hrun, hended, hEnd⟩ := X14.leaveW hS (by rw [Kq14]; exact hk) (v := some (.int (1 : Int32))) (fun h => by rw [Bd.returns] at h; cases h)
      refine ⟨_, _, retN X14 hx (t := .boolean) Bd.returns (by simp) (hb hby at_333) hr, hfin _ _ ⟨hrun, hended, _, _, rfl, ?_, hEnd.1, hEnd.2.1, hEnd.2.2.1, hEnd.2.2.2.mono (by decide) (by decide)⟩⟩
      show Q0 Z p1 p2 p3 p4 zc h0 n0 _ T14.heap _
      rw [Kq14]
      exact ⟨rfl, N⟩
  · by_cases q2 : own_cs ll l0 l1 = own_cs fl y0 y1
    · refine own_go (B := T9.setTop (mkF m 290 #[.val (.int p1), .val (.int p2), .val (.int p3), .val (.int p4), .val (.int u0), .val (.int u1), .val (.int nl), .val (.int el), .val (.int x0), .val (.int x1), .val (.int l0), .val (.int l1), .val (.int ll), .val (.int fl), .val (.int y0), .val (.int y1), .val (.ref r1), .val (.ref r2), .val (.ref r3), .val (.ref r4), .val (.ref b5), .val (.int b9), .unset] [(.int x1), (.int x0), (.int el), (.int u1), (.int u0), (.int nl)])) (fun t k => ?_) ?_
      · show Steps p.tables e below (T9.setTop (mkF m 278 #[.val (.int p1), .val (.int p2), .val (.int p3), .val (.int p4), .val (.int u0), .val (.int u1), .val (.int nl), .val (.int el), .val (.int x0), .val (.int x1), .val (.int l0), .val (.int l1), .val (.int ll), .val (.int fl), .val (.int y0), .val (.int y1), .val (.ref r1), .val (.ref r2), .val (.ref r3), .val (.ref r4), .val (.ref b5), .val (.int b9), .unset] [])) _
        refine XS.iload X9.here hx rfl (hb hby at_278) rfl ?_
        show Steps p.tables e below (T9.setTop (mkF m 280 #[.val (.int p1), .val (.int p2), .val (.int p3), .val (.int p4), .val (.int u0), .val (.int u1), .val (.int nl), .val (.int el), .val (.int x0), .val (.int x1), .val (.int l0), .val (.int l1), .val (.int ll), .val (.int fl), .val (.int y0), .val (.int y1), .val (.ref r1), .val (.ref r2), .val (.ref r3), .val (.ref r4), .val (.ref b5), .val (.int b9), .unset] [(.int nl)])) _
        refine XS.iload X9.here hx rfl (hb hby at_280) rfl ?_
        show Steps p.tables e below (T9.setTop (mkF m 282 #[.val (.int p1), .val (.int p2), .val (.int p3), .val (.int p4), .val (.int u0), .val (.int u1), .val (.int nl), .val (.int el), .val (.int x0), .val (.int x1), .val (.int l0), .val (.int l1), .val (.int ll), .val (.int fl), .val (.int y0), .val (.int y1), .val (.ref r1), .val (.ref r2), .val (.ref r3), .val (.ref r4), .val (.ref b5), .val (.int b9), .unset] [(.int u0), (.int nl)])) _
        refine XS.iload X9.here hx rfl (hb hby at_282) rfl ?_
        show Steps p.tables e below (T9.setTop (mkF m 284 #[.val (.int p1), .val (.int p2), .val (.int p3), .val (.int p4), .val (.int u0), .val (.int u1), .val (.int nl), .val (.int el), .val (.int x0), .val (.int x1), .val (.int l0), .val (.int l1), .val (.int ll), .val (.int fl), .val (.int y0), .val (.int y1), .val (.ref r1), .val (.ref r2), .val (.ref r3), .val (.ref r4), .val (.ref b5), .val (.int b9), .unset] [(.int u1), (.int u0), (.int nl)])) _
        refine XS.iload X9.here hx rfl (hb hby at_284) rfl ?_
        show Steps p.tables e below (T9.setTop (mkF m 286 #[.val (.int p1), .val (.int p2), .val (.int p3), .val (.int p4), .val (.int u0), .val (.int u1), .val (.int nl), .val (.int el), .val (.int x0), .val (.int x1), .val (.int l0), .val (.int l1), .val (.int ll), .val (.int fl), .val (.int y0), .val (.int y1), .val (.ref r1), .val (.ref r2), .val (.ref r3), .val (.ref r4), .val (.ref b5), .val (.int b9), .unset] [(.int el), (.int u1), (.int u0), (.int nl)])) _
        refine XS.iload X9.here hx rfl (hb hby at_286) rfl ?_
        show Steps p.tables e below (T9.setTop (mkF m 288 #[.val (.int p1), .val (.int p2), .val (.int p3), .val (.int p4), .val (.int u0), .val (.int u1), .val (.int nl), .val (.int el), .val (.int x0), .val (.int x1), .val (.int l0), .val (.int l1), .val (.int ll), .val (.int fl), .val (.int y0), .val (.int y1), .val (.ref r1), .val (.ref r2), .val (.ref r3), .val (.ref r4), .val (.ref b5), .val (.int b9), .unset] [(.int x0), (.int el), (.int u1), (.int u0), (.int nl)])) _
        refine XS.iload X9.here hx rfl (hb hby at_288) rfl ?_
        show Steps p.tables e below (T9.setTop (mkF m 290 #[.val (.int p1), .val (.int p2), .val (.int p3), .val (.int p4), .val (.int u0), .val (.int u1), .val (.int nl), .val (.int el), .val (.int x0), .val (.int x1), .val (.int l0), .val (.int l1), .val (.int ll), .val (.int fl), .val (.int y0), .val (.int y1), .val (.ref r1), .val (.ref r2), .val (.ref r3), .val (.ref r4), .val (.ref b5), .val (.int b9), .unset] [(.int x1), (.int x0), (.int el), (.int u1), (.int u0), (.int nl)])) _
        exact k
      -- pc 290: org/bindery/DocumentElementIsPinLaw.same
      obtain ⟨_, _, ⟨T16, L16, k16, n16⟩, -, X16, ⟨Lc16, hQ16, l16, y16, z16⟩, st16⟩ := Jvm.LawKit.callS X9 hx (y := (⟨"org/bindery/DocumentElementIsPinLaw", "same", "(IIIIII)Z"⟩ : MethodName)) hown (mvT hZ (hw _ (List.mem_of_getElem? (i := 73) rfl))) (mvT hZ (hw _ (List.mem_of_getElem? (i := 74) rfl))) (mvT hZ (hw _ (List.mem_of_getElem? (i := 2) rfl))) (mvT hZ (hw _ (List.mem_of_getElem? (i := 75) rfl))) (by decide) (backOf (W := 0) (rmSame l Z a0 hw [] nl u0 u1 el x0 x1 T8.heap n0 O bnl bel) hZ (hw _ (List.mem_of_getElem? (i := 75) rfl)) (hw _ (List.mem_of_getElem? (i := 2) rfl)) (by decide) (by decide)) (g := (mkF m 290 #[.val (.int p1), .val (.int p2), .val (.int p3), .val (.int p4), .val (.int u0), .val (.int u1), .val (.int nl), .val (.int el), .val (.int x0), .val (.int x1), .val (.int l0), .val (.int l1), .val (.int ll), .val (.int fl), .val (.int y0), .val (.int y1), .val (.ref r1), .val (.ref r2), .val (.ref r3), .val (.ref r4), .val (.ref b5), .val (.int b9), .unset] [(.int x1), (.int x0), (.int el), (.int u1), (.int u0), (.int nl)])) rfl (by rw [hml]; rfl) (argsL := [(.int nl), (.int u0), (.int u1), (.int el), (.int x0), (.int x1)]) (rest := []) (lenOf pd_8 rfl) rfl (by show 2 * 0 + _ ≤ _; exact Nat.le_of_eq rfl) (hb hby at_290) (fun _ hWm => ⟨rfl, Kq9, (by decide : 18 + 0 ≤ _), (by decide : 38 + 0 ≤ _)⟩)
      dsimp only [Pt.U, Pt.locs, Pt.cells, Pt.slots] at X16 l16 y16 z16 st16 hQ16
      subst l16 y16 z16
      obtain ⟨b16, rfl, Nq16, Kq16, cq16_0, cq16_1⟩ := hQ16
      replace N := Fr.app N Nq16
      refine own_go (B := T16.setTop (mkF m 293 #[.val (.int p1), .val (.int p2), .val (.int p3), .val (.int p4), .val (.int u0), .val (.int u1), .val (.int nl), .val (.int el), .val (.int x0), .val (.int x1), .val (.int l0), .val (.int l1), .val (.int ll), .val (.int fl), .val (.int y0), .val (.int y1), .val (.ref r1), .val (.ref r2), .val (.ref r3), .val (.ref r4), .val (.ref b5), .val (.int b9), .unset] [(.int b16)])) st16 ?_
      refine own_go (B := T16.setTop (mkF m 333 #[.val (.int p1), .val (.int p2), .val (.int p3), .val (.int p4), .val (.int u0), .val (.int u1), .val (.int nl), .val (.int el), .val (.int x0), .val (.int x1), .val (.int l0), .val (.int l1), .val (.int ll), .val (.int fl), .val (.int y0), .val (.int y1), .val (.ref r1), .val (.ref r2), .val (.ref r3), .val (.ref r4), .val (.ref b5), .val (.int b9), .val (.int (0 : Int32))] [(.int (1 : Int32))])) (fun t k => ?_) ?_
      · show Steps p.tables e below (T16.setTop (mkF m 293 #[.val (.int p1), .val (.int p2), .val (.int p3), .val (.int p4), .val (.int u0), .val (.int u1), .val (.int nl), .val (.int el), .val (.int x0), .val (.int x1), .val (.int l0), .val (.int l1), .val (.int ll), .val (.int fl), .val (.int y0), .val (.int y1), .val (.ref r1), .val (.ref r2), .val (.ref r3), .val (.ref r4), .val (.ref b5), .val (.int b9), .unset] [(.int b16)])) _
        refine XS.ifYes X16.here hx rfl (pc0 := 293) (pc' := 318) rfl (hb hby at_293) rfl ((if0 _ _).trans (teq (cq16_1 q1)).1) (by decide) (by decide) ?_
        show Steps p.tables e below (T16.setTop (mkF m 318 #[.val (.int p1), .val (.int p2), .val (.int p3), .val (.int p4), .val (.int u0), .val (.int u1), .val (.int nl), .val (.int el), .val (.int x0), .val (.int x1), .val (.int l0), .val (.int l1), .val (.int ll), .val (.int fl), .val (.int y0), .val (.int y1), .val (.ref r1), .val (.ref r2), .val (.ref r3), .val (.ref r4), .val (.ref b5), .val (.int b9), .unset] [])) _
        refine XS.iconst X16.here hx rfl (hb hby at_318) ?_
        show Steps p.tables e below (T16.setTop (mkF m 319 #[.val (.int p1), .val (.int p2), .val (.int p3), .val (.int p4), .val (.int u0), .val (.int u1), .val (.int nl), .val (.int el), .val (.int x0), .val (.int x1), .val (.int l0), .val (.int l1), .val (.int ll), .val (.int fl), .val (.int y0), .val (.int y1), .val (.ref r1), .val (.ref r2), .val (.ref r3), .val (.ref r4), .val (.ref b5), .val (.int b9), .unset] [(.int (0 : Int32))])) _
        refine XS.istore X16.here hx rfl (hb hby at_319) rfl (l' := #[.val (.int p1), .val (.int p2), .val (.int p3), .val (.int p4), .val (.int u0), .val (.int u1), .val (.int nl), .val (.int el), .val (.int x0), .val (.int x1), .val (.int l0), .val (.int l1), .val (.int ll), .val (.int fl), .val (.int y0), .val (.int y1), .val (.ref r1), .val (.ref r2), .val (.ref r3), .val (.ref r4), .val (.ref b5), .val (.int b9), .val (.int (0 : Int32))]) rfl ?_
        show Steps p.tables e below (T16.setTop (mkF m 321 #[.val (.int p1), .val (.int p2), .val (.int p3), .val (.int p4), .val (.int u0), .val (.int u1), .val (.int nl), .val (.int el), .val (.int x0), .val (.int x1), .val (.int l0), .val (.int l1), .val (.int ll), .val (.int fl), .val (.int y0), .val (.int y1), .val (.ref r1), .val (.ref r2), .val (.ref r3), .val (.ref r4), .val (.ref b5), .val (.int b9), .val (.int (0 : Int32))] [])) _
        refine XS.iload X16.here hx rfl (hb hby at_321) rfl ?_
        show Steps p.tables e below (T16.setTop (mkF m 323 #[.val (.int p1), .val (.int p2), .val (.int p3), .val (.int p4), .val (.int u0), .val (.int u1), .val (.int nl), .val (.int el), .val (.int x0), .val (.int x1), .val (.int l0), .val (.int l1), .val (.int ll), .val (.int fl), .val (.int y0), .val (.int y1), .val (.ref r1), .val (.ref r2), .val (.ref r3), .val (.ref r4), .val (.ref b5), .val (.int b9), .val (.int (0 : Int32))] [(.int b9)])) _
        refine XS.iload X16.here hx rfl (hb hby at_323) rfl ?_
        show Steps p.tables e below (T16.setTop (mkF m 325 #[.val (.int p1), .val (.int p2), .val (.int p3), .val (.int p4), .val (.int u0), .val (.int u1), .val (.int nl), .val (.int el), .val (.int x0), .val (.int x1), .val (.int l0), .val (.int l1), .val (.int ll), .val (.int fl), .val (.int y0), .val (.int y1), .val (.ref r1), .val (.ref r2), .val (.ref r3), .val (.ref r4), .val (.ref b5), .val (.int b9), .val (.int (0 : Int32))] [(.int (0 : Int32)), (.int b9)])) _
        refine XS.icmpNo X16.here hx rfl (hb hby at_325) rfl (teq (cq9_1 (fun z => absurd (hE.mp z).1 q1))).2 ?_
        show Steps p.tables e below (T16.setTop (mkF m 328 #[.val (.int p1), .val (.int p2), .val (.int p3), .val (.int p4), .val (.int u0), .val (.int u1), .val (.int nl), .val (.int el), .val (.int x0), .val (.int x1), .val (.int l0), .val (.int l1), .val (.int ll), .val (.int fl), .val (.int y0), .val (.int y1), .val (.ref r1), .val (.ref r2), .val (.ref r3), .val (.ref r4), .val (.ref b5), .val (.int b9), .val (.int (0 : Int32))] [])) _
        refine XS.iconst X16.here hx rfl (hb hby at_328) ?_
        show Steps p.tables e below (T16.setTop (mkF m 329 #[.val (.int p1), .val (.int p2), .val (.int p3), .val (.int p4), .val (.int u0), .val (.int u1), .val (.int nl), .val (.int el), .val (.int x0), .val (.int x1), .val (.int l0), .val (.int l1), .val (.int ll), .val (.int fl), .val (.int y0), .val (.int y1), .val (.ref r1), .val (.ref r2), .val (.ref r3), .val (.ref r4), .val (.ref b5), .val (.int b9), .val (.int (0 : Int32))] [(.int (1 : Int32))])) _
        refine XS.goto X16.here hx rfl (pc0 := 329) (pc' := 333) rfl (hb hby at_329) (by decide) (by decide) ?_
        show Steps p.tables e below (T16.setTop (mkF m 333 #[.val (.int p1), .val (.int p2), .val (.int p3), .val (.int p4), .val (.int u0), .val (.int u1), .val (.int nl), .val (.int el), .val (.int x0), .val (.int x1), .val (.int l0), .val (.int l1), .val (.int ll), .val (.int fl), .val (.int y0), .val (.int y1), .val (.ref r1), .val (.ref r2), .val (.ref r3), .val (.ref r4), .val (.ref b5), .val (.int b9), .val (.int (0 : Int32))] [(.int (1 : Int32))])) _
        exact k
      obtain ⟨fs, hr, hrun, hended, hEnd⟩ := X16.leaveW hS (by rw [Kq16]; exact hk) (v := some (.int (1 : Int32))) (fun h => by rw [Bd.returns] at h; cases h)
      refine ⟨_, _, retN X16 hx (t := .boolean) Bd.returns (by simp) (hb hby at_333) hr, hfin _ _ ⟨hrun, hended, _, _, rfl, ?_, hEnd.1, hEnd.2.1, hEnd.2.2.1, hEnd.2.2.2.mono (by decide) (by decide)⟩⟩
      show Q0 Z p1 p2 p3 p4 zc h0 n0 _ T16.heap _
      rw [Kq16]
      exact ⟨rfl, N⟩
    · refine own_go (B := T9.setTop (mkF m 290 #[.val (.int p1), .val (.int p2), .val (.int p3), .val (.int p4), .val (.int u0), .val (.int u1), .val (.int nl), .val (.int el), .val (.int x0), .val (.int x1), .val (.int l0), .val (.int l1), .val (.int ll), .val (.int fl), .val (.int y0), .val (.int y1), .val (.ref r1), .val (.ref r2), .val (.ref r3), .val (.ref r4), .val (.ref b5), .val (.int b9), .unset] [(.int x1), (.int x0), (.int el), (.int u1), (.int u0), (.int nl)])) (fun t k => ?_) ?_
      · show Steps p.tables e below (T9.setTop (mkF m 278 #[.val (.int p1), .val (.int p2), .val (.int p3), .val (.int p4), .val (.int u0), .val (.int u1), .val (.int nl), .val (.int el), .val (.int x0), .val (.int x1), .val (.int l0), .val (.int l1), .val (.int ll), .val (.int fl), .val (.int y0), .val (.int y1), .val (.ref r1), .val (.ref r2), .val (.ref r3), .val (.ref r4), .val (.ref b5), .val (.int b9), .unset] [])) _
        refine XS.iload X9.here hx rfl (hb hby at_278) rfl ?_
        show Steps p.tables e below (T9.setTop (mkF m 280 #[.val (.int p1), .val (.int p2), .val (.int p3), .val (.int p4), .val (.int u0), .val (.int u1), .val (.int nl), .val (.int el), .val (.int x0), .val (.int x1), .val (.int l0), .val (.int l1), .val (.int ll), .val (.int fl), .val (.int y0), .val (.int y1), .val (.ref r1), .val (.ref r2), .val (.ref r3), .val (.ref r4), .val (.ref b5), .val (.int b9), .unset] [(.int nl)])) _
        refine XS.iload X9.here hx rfl (hb hby at_280) rfl ?_
        show Steps p.tables e below (T9.setTop (mkF m 282 #[.val (.int p1), .val (.int p2), .val (.int p3), .val (.int p4), .val (.int u0), .val (.int u1), .val (.int nl), .val (.int el), .val (.int x0), .val (.int x1), .val (.int l0), .val (.int l1), .val (.int ll), .val (.int fl), .val (.int y0), .val (.int y1), .val (.ref r1), .val (.ref r2), .val (.ref r3), .val (.ref r4), .val (.ref b5), .val (.int b9), .unset] [(.int u0), (.int nl)])) _
        refine XS.iload X9.here hx rfl (hb hby at_282) rfl ?_
        show Steps p.tables e below (T9.setTop (mkF m 284 #[.val (.int p1), .val (.int p2), .val (.int p3), .val (.int p4), .val (.int u0), .val (.int u1), .val (.int nl), .val (.int el), .val (.int x0), .val (.int x1), .val (.int l0), .val (.int l1), .val (.int ll), .val (.int fl), .val (.int y0), .val (.int y1), .val (.ref r1), .val (.ref r2), .val (.ref r3), .val (.ref r4), .val (.ref b5), .val (.int b9), .unset] [(.int u1), (.int u0), (.int nl)])) _
        refine XS.iload X9.here hx rfl (hb hby at_284) rfl ?_
        show Steps p.tables e below (T9.setTop (mkF m 286 #[.val (.int p1), .val (.int p2), .val (.int p3), .val (.int p4), .val (.int u0), .val (.int u1), .val (.int nl), .val (.int el), .val (.int x0), .val (.int x1), .val (.int l0), .val (.int l1), .val (.int ll), .val (.int fl), .val (.int y0), .val (.int y1), .val (.ref r1), .val (.ref r2), .val (.ref r3), .val (.ref r4), .val (.ref b5), .val (.int b9), .unset] [(.int el), (.int u1), (.int u0), (.int nl)])) _
        refine XS.iload X9.here hx rfl (hb hby at_286) rfl ?_
        show Steps p.tables e below (T9.setTop (mkF m 288 #[.val (.int p1), .val (.int p2), .val (.int p3), .val (.int p4), .val (.int u0), .val (.int u1), .val (.int nl), .val (.int el), .val (.int x0), .val (.int x1), .val (.int l0), .val (.int l1), .val (.int ll), .val (.int fl), .val (.int y0), .val (.int y1), .val (.ref r1), .val (.ref r2), .val (.ref r3), .val (.ref r4), .val (.ref b5), .val (.int b9), .unset] [(.int x0), (.int el), (.int u1), (.int u0), (.int nl)])) _
        refine XS.iload X9.here hx rfl (hb hby at_288) rfl ?_
        show Steps p.tables e below (T9.setTop (mkF m 290 #[.val (.int p1), .val (.int p2), .val (.int p3), .val (.int p4), .val (.int u0), .val (.int u1), .val (.int nl), .val (.int el), .val (.int x0), .val (.int x1), .val (.int l0), .val (.int l1), .val (.int ll), .val (.int fl), .val (.int y0), .val (.int y1), .val (.ref r1), .val (.ref r2), .val (.ref r3), .val (.ref r4), .val (.ref b5), .val (.int b9), .unset] [(.int x1), (.int x0), (.int el), (.int u1), (.int u0), (.int nl)])) _
        exact k
      -- pc 290: org/bindery/DocumentElementIsPinLaw.same
      obtain ⟨_, _, ⟨T18, L18, k18, n18⟩, -, X18, ⟨Lc18, hQ18, l18, y18, z18⟩, st18⟩ := Jvm.LawKit.callS X9 hx (y := (⟨"org/bindery/DocumentElementIsPinLaw", "same", "(IIIIII)Z"⟩ : MethodName)) hown (mvT hZ (hw _ (List.mem_of_getElem? (i := 73) rfl))) (mvT hZ (hw _ (List.mem_of_getElem? (i := 74) rfl))) (mvT hZ (hw _ (List.mem_of_getElem? (i := 2) rfl))) (mvT hZ (hw _ (List.mem_of_getElem? (i := 75) rfl))) (by decide) (backOf (W := 0) (rmSame l Z a0 hw [] nl u0 u1 el x0 x1 T8.heap n0 O bnl bel) hZ (hw _ (List.mem_of_getElem? (i := 75) rfl)) (hw _ (List.mem_of_getElem? (i := 2) rfl)) (by decide) (by decide)) (g := (mkF m 290 #[.val (.int p1), .val (.int p2), .val (.int p3), .val (.int p4), .val (.int u0), .val (.int u1), .val (.int nl), .val (.int el), .val (.int x0), .val (.int x1), .val (.int l0), .val (.int l1), .val (.int ll), .val (.int fl), .val (.int y0), .val (.int y1), .val (.ref r1), .val (.ref r2), .val (.ref r3), .val (.ref r4), .val (.ref b5), .val (.int b9), .unset] [(.int x1), (.int x0), (.int el), (.int u1), (.int u0), (.int nl)])) rfl (by rw [hml]; rfl) (argsL := [(.int nl), (.int u0), (.int u1), (.int el), (.int x0), (.int x1)]) (rest := []) (lenOf pd_8 rfl) rfl (by show 2 * 0 + _ ≤ _; exact Nat.le_of_eq rfl) (hb hby at_290) (fun _ hWm => ⟨rfl, Kq9, (by decide : 18 + 0 ≤ _), (by decide : 38 + 0 ≤ _)⟩)
      dsimp only [Pt.U, Pt.locs, Pt.cells, Pt.slots] at X18 l18 y18 z18 st18 hQ18
      subst l18 y18 z18
      obtain ⟨b18, rfl, Nq18, Kq18, cq18_0, cq18_1⟩ := hQ18
      replace N := Fr.app N Nq18
      refine own_go (B := T18.setTop (mkF m 293 #[.val (.int p1), .val (.int p2), .val (.int p3), .val (.int p4), .val (.int u0), .val (.int u1), .val (.int nl), .val (.int el), .val (.int x0), .val (.int x1), .val (.int l0), .val (.int l1), .val (.int ll), .val (.int fl), .val (.int y0), .val (.int y1), .val (.ref r1), .val (.ref r2), .val (.ref r3), .val (.ref r4), .val (.ref b5), .val (.int b9), .unset] [(.int b18)])) st18 ?_
      refine own_go (B := T18.setTop (mkF m 333 #[.val (.int p1), .val (.int p2), .val (.int p3), .val (.int p4), .val (.int u0), .val (.int u1), .val (.int nl), .val (.int el), .val (.int x0), .val (.int x1), .val (.int l0), .val (.int l1), .val (.int ll), .val (.int fl), .val (.int y0), .val (.int y1), .val (.ref r1), .val (.ref r2), .val (.ref r3), .val (.ref r4), .val (.ref b5), .val (.int b9), .val (.int (0 : Int32))] [(.int (1 : Int32))])) (fun t k => ?_) ?_
      · show Steps p.tables e below (T18.setTop (mkF m 293 #[.val (.int p1), .val (.int p2), .val (.int p3), .val (.int p4), .val (.int u0), .val (.int u1), .val (.int nl), .val (.int el), .val (.int x0), .val (.int x1), .val (.int l0), .val (.int l1), .val (.int ll), .val (.int fl), .val (.int y0), .val (.int y1), .val (.ref r1), .val (.ref r2), .val (.ref r3), .val (.ref r4), .val (.ref b5), .val (.int b9), .unset] [(.int b18)])) _
        refine XS.ifYes X18.here hx rfl (pc0 := 293) (pc' := 318) rfl (hb hby at_293) rfl ((if0 _ _).trans (teq (cq18_1 q1)).1) (by decide) (by decide) ?_
        show Steps p.tables e below (T18.setTop (mkF m 318 #[.val (.int p1), .val (.int p2), .val (.int p3), .val (.int p4), .val (.int u0), .val (.int u1), .val (.int nl), .val (.int el), .val (.int x0), .val (.int x1), .val (.int l0), .val (.int l1), .val (.int ll), .val (.int fl), .val (.int y0), .val (.int y1), .val (.ref r1), .val (.ref r2), .val (.ref r3), .val (.ref r4), .val (.ref b5), .val (.int b9), .unset] [])) _
        refine XS.iconst X18.here hx rfl (hb hby at_318) ?_
        show Steps p.tables e below (T18.setTop (mkF m 319 #[.val (.int p1), .val (.int p2), .val (.int p3), .val (.int p4), .val (.int u0), .val (.int u1), .val (.int nl), .val (.int el), .val (.int x0), .val (.int x1), .val (.int l0), .val (.int l1), .val (.int ll), .val (.int fl), .val (.int y0), .val (.int y1), .val (.ref r1), .val (.ref r2), .val (.ref r3), .val (.ref r4), .val (.ref b5), .val (.int b9), .unset] [(.int (0 : Int32))])) _
        refine XS.istore X18.here hx rfl (hb hby at_319) rfl (l' := #[.val (.int p1), .val (.int p2), .val (.int p3), .val (.int p4), .val (.int u0), .val (.int u1), .val (.int nl), .val (.int el), .val (.int x0), .val (.int x1), .val (.int l0), .val (.int l1), .val (.int ll), .val (.int fl), .val (.int y0), .val (.int y1), .val (.ref r1), .val (.ref r2), .val (.ref r3), .val (.ref r4), .val (.ref b5), .val (.int b9), .val (.int (0 : Int32))]) rfl ?_
        show Steps p.tables e below (T18.setTop (mkF m 321 #[.val (.int p1), .val (.int p2), .val (.int p3), .val (.int p4), .val (.int u0), .val (.int u1), .val (.int nl), .val (.int el), .val (.int x0), .val (.int x1), .val (.int l0), .val (.int l1), .val (.int ll), .val (.int fl), .val (.int y0), .val (.int y1), .val (.ref r1), .val (.ref r2), .val (.ref r3), .val (.ref r4), .val (.ref b5), .val (.int b9), .val (.int (0 : Int32))] [])) _
        refine XS.iload X18.here hx rfl (hb hby at_321) rfl ?_
        show Steps p.tables e below (T18.setTop (mkF m 323 #[.val (.int p1), .val (.int p2), .val (.int p3), .val (.int p4), .val (.int u0), .val (.int u1), .val (.int nl), .val (.int el), .val (.int x0), .val (.int x1), .val (.int l0), .val (.int l1), .val (.int ll), .val (.int fl), .val (.int y0), .val (.int y1), .val (.ref r1), .val (.ref r2), .val (.ref r3), .val (.ref r4), .val (.ref b5), .val (.int b9), .val (.int (0 : Int32))] [(.int b9)])) _
        refine XS.iload X18.here hx rfl (hb hby at_323) rfl ?_
        show Steps p.tables e below (T18.setTop (mkF m 325 #[.val (.int p1), .val (.int p2), .val (.int p3), .val (.int p4), .val (.int u0), .val (.int u1), .val (.int nl), .val (.int el), .val (.int x0), .val (.int x1), .val (.int l0), .val (.int l1), .val (.int ll), .val (.int fl), .val (.int y0), .val (.int y1), .val (.ref r1), .val (.ref r2), .val (.ref r3), .val (.ref r4), .val (.ref b5), .val (.int b9), .val (.int (0 : Int32))] [(.int (0 : Int32)), (.int b9)])) _
        refine XS.icmpNo X18.here hx rfl (hb hby at_325) rfl (teq (cq9_1 (fun z => absurd (hE.mp z).1 q1))).2 ?_
        show Steps p.tables e below (T18.setTop (mkF m 328 #[.val (.int p1), .val (.int p2), .val (.int p3), .val (.int p4), .val (.int u0), .val (.int u1), .val (.int nl), .val (.int el), .val (.int x0), .val (.int x1), .val (.int l0), .val (.int l1), .val (.int ll), .val (.int fl), .val (.int y0), .val (.int y1), .val (.ref r1), .val (.ref r2), .val (.ref r3), .val (.ref r4), .val (.ref b5), .val (.int b9), .val (.int (0 : Int32))] [])) _
        refine XS.iconst X18.here hx rfl (hb hby at_328) ?_
        show Steps p.tables e below (T18.setTop (mkF m 329 #[.val (.int p1), .val (.int p2), .val (.int p3), .val (.int p4), .val (.int u0), .val (.int u1), .val (.int nl), .val (.int el), .val (.int x0), .val (.int x1), .val (.int l0), .val (.int l1), .val (.int ll), .val (.int fl), .val (.int y0), .val (.int y1), .val (.ref r1), .val (.ref r2), .val (.ref r3), .val (.ref r4), .val (.ref b5), .val (.int b9), .val (.int (0 : Int32))] [(.int (1 : Int32))])) _
        refine XS.goto X18.here hx rfl (pc0 := 329) (pc' := 333) rfl (hb hby at_329) (by decide) (by decide) ?_
        show Steps p.tables e below (T18.setTop (mkF m 333 #[.val (.int p1), .val (.int p2), .val (.int p3), .val (.int p4), .val (.int u0), .val (.int u1), .val (.int nl), .val (.int el), .val (.int x0), .val (.int x1), .val (.int l0), .val (.int l1), .val (.int ll), .val (.int fl), .val (.int y0), .val (.int y1), .val (.ref r1), .val (.ref r2), .val (.ref r3), .val (.ref r4), .val (.ref b5), .val (.int b9), .val (.int (0 : Int32))] [(.int (1 : Int32))])) _
        exact k
      obtain ⟨fs, hr, hrun, hended, hEnd⟩ := X18.leaveW hS (by rw [Kq18]; exact hk) (v := some (.int (1 : Int32))) (fun h => by rw [Bd.returns] at h; cases h)
      refine ⟨_, _, retN X18 hx (t := .boolean) Bd.returns (by simp) (hb hby at_333) hr, hfin _ _ ⟨hrun, hended, _, _, rfl, ?_, hEnd.1, hEnd.2.1, hEnd.2.2.1, hEnd.2.2.2.mono (by decide) (by decide)⟩⟩
      show Q0 Z p1 p2 p3 p4 zc h0 n0 _ T18.heap _
      rw [Kq18]
      exact ⟨rfl, N⟩
set_option maxRecDepth 65536 in
set_option maxHeartbeats 40000000 in
theorem comes_1 {Post : Tables → Env → Array Value → State → Outcome → State → Prop} (hpost : ∀ tb e args s v u, (limb_1_1.after args s (.returned v) u = true ∧ limb_1_2.after args s (.returned v) u = true ∧ True) → ReturnedEndW s (.returned v) u (Jvm.fieldLocs frame_1_writes args s ++ Jvm.arrayLocs frame_1_arrays args s ++ Jvm.staticLocs frame_1_statics s) 40 1216 → Post tb e args s (.returned v) u) :
    ArmFor flags0 classFile x code maxLocals ret World_1 tables_1 room_1 Calls_1 rest_1 Pre_1 Post := by
  intro l hfl _ _ p e ha hc hk s m args below hf hA hF happ hP
  obtain ⟨hcalls, hrest, hpre⟩ := hP
  obtain ⟨-, -, -, hnamed, -, -, -, hat⟩ := (Spec.applies_iff hf).mp happ
  obtain ⟨hg, hn⟩ := and_e (Cond.before_iff.mp (show (Jvm.Cond.and given_1 narrow_1).before args s = true from hpre))
  obtain ⟨gc, gr0⟩ := and_e hg
  obtain ⟨gi0, gr1⟩ := and_e gr0
  obtain ⟨gi1, gr2⟩ := and_e gr1
  obtain ⟨gi2, gr3⟩ := and_e gr2
  have gi3 := gr3
  obtain ⟨w0, w1, w2, w3, rfl⟩ : ∃ w0 w1 w2 w3 : Value, args = #[w0, w1, w2, w3] := by
    have hs : args.size = 4 := by simpa [Cond.value, given_1] using gc
    obtain ⟨L⟩ := args
    match L, hs with
    | [w0, w1, w2, w3], _ => exact ⟨w0, w1, w2, w3, rfl⟩
  have hw := fun d (hd : d ∈ tables_1) => atoms_spec (ws := Jvm.Cond.code x code maxLocals ret :: tables_1) hat d (List.mem_cons_of_mem _ hd)
  have hfit : Fit s := fun {y c} hc i hi => by
    obtain ⟨ha, rfl⟩ := Array.getElem?_eq_some_iff.mp hc
    have q := List.all_eq_true.mp ((Array.all_eq_true_iff_forall_mem.mp hF) _ (Array.getElem_mem ha)) i (List.mem_range.mpr hi)
    simpa [Array.getElem?_eq_getElem hi] using q
  obtain ⟨i0, ei0⟩ := is_v gi0
  obtain rfl : w0 = (.int i0) := Option.some.inj ei0
  obtain ⟨i1, ei1⟩ := is_v gi1
  obtain rfl : w1 = (.int i1) := Option.some.inj ei1
  obtain ⟨i2, ei2⟩ := is_v gi2
  obtain rfl : w2 = (.int i2) := Option.some.inj ei2
  obtain ⟨i3, ei3⟩ := is_v gi3
  obtain rfl : w3 = (.int i3) := Option.some.inj ei3
  obtain ⟨hsets, hown0⟩ := atoms_of _ (rest_1_c_eq ▸ (show rest_1_c.before _ s = true from hrest))
  obtain ⟨zc, ezc⟩ := is_v (Cond.before_iff.mp (hsets _ (List.mem_of_getElem? (i := 1) rfl)))
  have S_C := Sta.start ezc (Or.inl (hsets _ (List.mem_of_getElem? (i := 0) rfl)))
  have hcs : ¬ zc = (0 : Int32) := by
    have q := not_v (Cond.before_iff.mp (hsets _ (List.mem_of_getElem? (i := 2) rfl)))
    have r := gotF (Jvm.Cond.eq_ints ezc (Term.int_eval 0)) q
    exact r
  have hcH : Jvm.Lit.constHeld s "java/lang/String" 7 := hcalls.1 ("java/lang/String", 7) (by decide)
  have hcw : Jvm.Lit.compactW.before _ s = true := (hsets _ (List.mem_of_getElem? (i := 2) rfl))
  obtain ⟨n, o, h1, h2, h3, _, L, rfl, ⟨rfl, N⟩, hq⟩ := rm0 l s _ hw tables_1 i0 i1 i2 i3 zc s.heap s.heap.size (Old.start s) S_C hcs hcH hcw p e ha hc hk s m _ below hf ((Spec.applies_iff_loose hf).mp happ).1 ⟨rfl, State.Warmed39.refl s, rfl, Or.inl IB.start⟩ trivial
  refine ⟨n, _, h1, h2, h3, hpost _ _ _ _ _ _ ⟨Cond.after_iff.mpr rfl, Cond.after_iff.mpr (eq_i res_at (Term.int_eval (1)) rfl), trivial⟩ ⟨hq.1, hq.2.1, hq.2.2.1, (hq.2.2.2.sift fun y hy => Or.inr (N y hy)).mono (by decide) (by decide)⟩⟩
theorem main_1_1 : Claimed_1_1 := comes_1 fun _ _ _ _ _ _ h hF => ⟨h.1, hF⟩
theorem main_1_2 : Claimed_1_2 := comes_1 fun _ _ _ _ _ _ h hF => ⟨h.2.1, hF⟩
end Jvm.Pilot.@@N@@
namespace Jvm.Pilot.@@N@@
open Jvm Jvm.ClassFile Sem Op Lib Jvm.Free Jvm.Stand Jvm.Pilot.@@N@@.Jvm.D
/-! MADE BY PROGRAM (witnessworld.py) out of the Statement's table words and the real class files: 22 classes; the members and pool entries that the words name. The judged class is class 1, her method 3. -/
namespace start1
open Jvm.ClassFile
def u (s : String) : CpInfo := .utf8 (stringToUtf16 s)
/-- a pool by its gaps: so many unusable entries, then the entry; so many at the end -/
def gap : Nat → List CpInfo → List CpInfo
  | 0, r => r
  | n + 1, r => .unusable :: gap n r
def poolList (es : List (Nat × CpInfo)) (last : Nat) : List CpInfo := es.foldr (fun e r => gap e.1 (e.2 :: r)) (gap last [])
def pool (es : List (Nat × CpInfo)) (last : Nat) : Array CpInfo := ⟨poolList es last⟩
def fileOf (pool : Array CpInfo) (this : Nat) (attrs : Array Attribute := #[]) (ms : Array MethodInfo := #[]) (fl : Nat := 33) (sup : Nat := 0) (ifs : Array Nat := #[]) (fds : Array FieldInfo := #[]) : ClassFile where
  minorVersion := 0
  majorVersion := 65
  constantPool := pool
  accessFlags := fl
  thisClass := this
  superClass := sup
  interfaces := ifs
  fields := fds
  methods := ms
  attributes := attrs
def plain (name : String) (sup : Option ClassId) : Class where
  name := name
  kind := .ordinary
  loader := none
  accessFlags := 33
  super := sup
  interfaces := #[]
  cf := none
  fields := #[]
  methods := #[]
  instanceTypes := #[]
  staticTypes := #[]
  resolved := #[]
  callSites := []
  init := .initialized
  statics := none
  mirror := none

def pool0 : Array CpInfo := pool [(5, u "<init>"), (0, u "()V"), (1, .class_ 10), (1, u "java/lang/Object")] 113

def k0c0 : Code := { maxStack := 0, maxLocals := 1, code := object_method_1_code, exceptionTable := #[], attributes := #[] }
def k0m0 : Method := { name := "<init>", desc := "()V", sig := { parameters := [], returnType := none }, accessFlags := 1, code := some k0c0 }
/-- java/lang/Object -/
def k0 : Class := { plain "java/lang/Object" none with
  accessFlags := 33
  interfaces := #[]
  cf := some (fileOf pool0 8 #[] #[{ accessFlags := 1, nameIndex := 5, descriptorIndex := 6, attributes := #[] }] 33 0 #[] #[])
  fields := #[]
  methods := #[k0m0]
  instanceTypes := #[]
  staticTypes := #[]
  resolved := Array.replicate 124 none
  statics := none }

def pool1 : Array CpInfo := pool [(2, .class_ 4), (1, u "java/lang/Object"), (0, u "<init>"), (0, u "()V"), (0, .class_ 8), (0, u "java/lang/String"), (0, .methodref 7 10), (0, .nameAndType 5 11), (0, u "([C)V"), (0, .methodref 13 14), (0, .class_ 15), (0, .nameAndType 16 17), (0, u "org/bindery/DocumentElementIsPinLaw"), (0, u "str"), (0, u "(III)Ljava/lang/String;"), (0, .class_ 19), (0, u "org/bindery/DocumentElement"), (0, .class_ 21), (0, u "org/bindery/Position"), (0, .methodref 20 23), (0, .nameAndType 5 24), (0, u "(II)V"), (0, .methodref 18 26), (0, .nameAndType 5 27), (0, u "(Ljava/lang/String;Ljava/lang/String;Ljava/lang/String;Lorg/bindery/Position;)V"), (0, .methodref 18 29), (0, .nameAndType 30 31), (0, u "is"), (0, u "(Ljava/lang/String;Ljava/lang/String;)Z"), (0, .methodref 13 33), (0, .nameAndType 34 35), (0, u "same"), (0, u "(IIIIII)Z"), (3, u "law"), (0, u "(IIII)Z")] 2

def k1m0 : Method := { name := "<init>", desc := "()V", sig := { parameters := [], returnType := none }, accessFlags := 2, code := none }
def k1c1 : Code := { maxStack := 6, maxLocals := 3, code := method_2_code, exceptionTable := #[], attributes := #[] }
def k1m1 : Method := { name := "str", desc := "(III)Ljava/lang/String;", sig := { parameters := [.int, .int, .int], returnType := some (.object "java/lang/String") }, accessFlags := 10, code := some k1c1 }
def k1c2 : Code := { maxStack := 2, maxLocals := 6, code := method_3_code, exceptionTable := #[], attributes := #[] }
def k1m2 : Method := { name := "same", desc := "(IIIIII)Z", sig := { parameters := [.int, .int, .int, .int, .int, .int], returnType := some .boolean }, accessFlags := 10, code := some k1c2 }
def k1c3 : Code := { maxStack := 9, maxLocals := 23, code := code, exceptionTable := #[], attributes := #[] }
def k1m3 : Method := { name := "law", desc := "(IIII)Z", sig := { parameters := [.int, .int, .int, .int], returnType := some .boolean }, accessFlags := 9, code := some k1c3 }
/-- org/bindery/DocumentElementIsPinLaw -/
def k1 : Class := { plain "org/bindery/DocumentElementIsPinLaw" (some 0) with
  accessFlags := 49
  interfaces := #[]
  cf := some (fileOf pool1 13 #[] #[{ accessFlags := 2, nameIndex := 5, descriptorIndex := 6, attributes := #[] }, { accessFlags := 10, nameIndex := 16, descriptorIndex := 17, attributes := #[] }, { accessFlags := 10, nameIndex := 34, descriptorIndex := 35, attributes := #[] }, { accessFlags := 9, nameIndex := 39, descriptorIndex := 40, attributes := #[] }] 49 2 #[] #[])
  fields := #[]
  methods := #[k1m0, k1m1, k1m2, k1m3]
  instanceTypes := #[]
  staticTypes := #[]
  resolved := Array.replicate 43 none
  statics := none }

def pool2 : Array CpInfo := pool [(1, .class_ 2), (0, u "java/io/Serializable"), (0, .class_ 4), (0, u "java/lang/Object")] 2

/-- java/io/Serializable -/
def k2 : Class := { plain "java/io/Serializable" (some 0) with
  accessFlags := 1537
  interfaces := #[]
  cf := some (fileOf pool2 1 #[] #[] 1537 3 #[] #[])
  fields := #[]
  methods := #[]
  instanceTypes := #[]
  staticTypes := #[]
  resolved := Array.replicate 7 none
  statics := none }

def pool3 : Array CpInfo := pool [(1, .class_ 2), (0, u "java/lang/Comparable"), (0, .class_ 4), (0, u "java/lang/Object")] 7

/-- java/lang/Comparable -/
def k3 : Class := { plain "java/lang/Comparable" (some 0) with
  accessFlags := 1537
  interfaces := #[]
  cf := some (fileOf pool3 1 #[] #[] 1537 3 #[] #[])
  fields := #[]
  methods := #[]
  instanceTypes := #[]
  staticTypes := #[]
  resolved := Array.replicate 12 none
  statics := none }

def pool4 : Array CpInfo := pool [(2, .class_ 4), (1, u "java/lang/CharSequence"), (42, .class_ 48), (0, u "java/lang/CharSequence$1CodePointIterator"), (10, .class_ 60), (0, u "java/lang/CharSequence$1CharIterator"), (5, .class_ 67), (0, u "java/lang/Object")] 63

/-- java/lang/CharSequence -/
def k4 : Class := { plain "java/lang/CharSequence" (some 0) with
  accessFlags := 1537
  interfaces := #[]
  cf := some (fileOf pool4 2 #[.nestMembers #[47, 59]] #[] 1537 66 #[] #[])
  fields := #[]
  methods := #[]
  instanceTypes := #[]
  staticTypes := #[]
  resolved := Array.replicate 131 none
  statics := none }

def pool5 : Array CpInfo := pool [(1, .class_ 2), (0, u "java/lang/constant/Constable"), (0, .class_ 4), (0, u "java/lang/Object")] 6

/-- java/lang/constant/Constable -/
def k5 : Class := { plain "java/lang/constant/Constable" (some 0) with
  accessFlags := 1537
  interfaces := #[]
  cf := some (fileOf pool5 1 #[] #[] 1537 3 #[] #[])
  fields := #[]
  methods := #[]
  instanceTypes := #[]
  staticTypes := #[]
  resolved := Array.replicate 11 none
  statics := none }

def pool6 : Array CpInfo := pool [(1, .class_ 2), (0, u "java/lang/constant/ConstantDesc"), (0, .class_ 4), (0, u "java/lang/Object")] 32

/-- java/lang/constant/ConstantDesc -/
def k6 : Class := { plain "java/lang/constant/ConstantDesc" (some 0) with
  accessFlags := 1537
  interfaces := #[]
  cf := some (fileOf pool6 1 #[] #[] 1537 3 #[] #[])
  fields := #[]
  methods := #[]
  instanceTypes := #[]
  staticTypes := #[]
  resolved := Array.replicate 37 none
  statics := none }

def pool7 : Array CpInfo := pool [(1, .methodref 2 3), (0, .class_ 4), (0, .nameAndType 5 6), (0, u "java/lang/Object"), (0, u "<init>"), (0, u "()V"), (0, .string 8), (0, u ""), (0, .fieldref 10 11), (0, .class_ 12), (0, .nameAndType 13 14), (0, u "java/lang/String"), (0, u "value"), (0, u "[B"), (0, .fieldref 10 16), (0, .nameAndType 17 18), (0, u "coder"), (0, u "B"), (2, u "hash"), (0, u "I"), (2, u "hashIsZero"), (0, u "Z"), (0, .methodref 10 28), (0, .nameAndType 5 29), (0, u "([CIILjava/lang/Void;)V"), (8, .fieldref 10 39), (0, .nameAndType 40 26), (0, u "COMPACT_STRINGS"), (1, .class_ 44), (1, u "java/lang/StringUTF16"), (0, u "compress"), (1, .methodref 42 48), (0, .nameAndType 49 50), (0, u "coderFromArrayLen"), (0, u "([BI)B"), (56, .class_ 109), (1, u "java/lang/StringLatin1"), (67, .methodref 42 178), (0, .nameAndType 45 179), (0, u "([CII)[B"), (361, .methodref 107 542), (0, .nameAndType 543 544), (0, u "equals"), (0, u "([B[B)Z"), (28, u "(Ljava/lang/Object;)Z"), (1, .class_ 576), (0, u "java/lang/CharSequence"), (22, u "CASE_INSENSITIVE_ORDER"), (0, u "Ljava/util/Comparator;"), (409, u "([C)V"), (90, u "serialPersistentFields"), (0, u "[Ljava/io/ObjectStreamField;"), (0, .class_ 1104), (0, u "java/lang/String$CaseInsensitiveComparator"), (1, .class_ 1107), (0, u "java/io/Serializable"), (0, .class_ 1109), (0, u "java/lang/Comparable"), (0, .class_ 1111), (0, u "java/lang/constant/Constable"), (0, .class_ 1113), (0, u "java/lang/constant/ConstantDesc"), (2, u "serialVersionUID"), (0, u "J"), (3, u "REPL"), (0, u "C"), (2, u "LATIN1"), (1, u "UTF16")] 323

def k7m0 : Method := { name := "<init>", desc := "()V", sig := { parameters := [], returnType := none }, accessFlags := 1, code := none }
def k7c1 : Code := { maxStack := 5, maxLocals := 2, code := jdk_42_method_3_code, exceptionTable := #[], attributes := #[] }
def k7m1 : Method := { name := "<init>", desc := "([C)V", sig := { parameters := [(.array .char)], returnType := none }, accessFlags := 1, code := some k7c1 }
def k7c2 : Code := { maxStack := 2, maxLocals := 3, code := jdk_42_method_66_code, exceptionTable := #[], attributes := #[] }
def k7m2 : Method := { name := "equals", desc := "(Ljava/lang/Object;)Z", sig := { parameters := [(.object "java/lang/Object")], returnType := some .boolean }, accessFlags := 1, code := some k7c2 }
def k7c3 : Code := { maxStack := 4, maxLocals := 6, code := jdk_42_method_149_code, exceptionTable := #[], attributes := #[] }
def k7m3 : Method := { name := "<init>", desc := "([CIILjava/lang/Void;)V", sig := { parameters := [(.array .char), .int, .int, (.object "java/lang/Void")], returnType := none }, accessFlags := 2, code := some k7c3 }
/-- java/lang/String -/
def k7 : Class := { plain "java/lang/String" (some 0) with
  accessFlags := 49
  interfaces := #[2, 3, 4, 5, 6]
  cf := some (fileOf pool7 10 #[.nestMembers #[1103]] #[{ accessFlags := 1, nameIndex := 5, descriptorIndex := 6, attributes := #[] }, { accessFlags := 1, nameIndex := 5, descriptorIndex := 1010, attributes := #[] }, { accessFlags := 1, nameIndex := 543, descriptorIndex := 573, attributes := #[] }, { accessFlags := 2, nameIndex := 5, descriptorIndex := 29, attributes := #[] }] 49 2 #[1106, 1108, 575, 1110, 1112] #[{ accessFlags := 18, nameIndex := 13, descriptorIndex := 14, attributes := #[] }, { accessFlags := 18, nameIndex := 17, descriptorIndex := 18, attributes := #[] }, { accessFlags := 2, nameIndex := 21, descriptorIndex := 22, attributes := #[] }, { accessFlags := 2, nameIndex := 25, descriptorIndex := 26, attributes := #[] }, { accessFlags := 26, nameIndex := 1116, descriptorIndex := 1117, attributes := #[] }, { accessFlags := 24, nameIndex := 40, descriptorIndex := 26, attributes := #[] }, { accessFlags := 26, nameIndex := 1101, descriptorIndex := 1102, attributes := #[] }, { accessFlags := 26, nameIndex := 1121, descriptorIndex := 1122, attributes := #[] }, { accessFlags := 25, nameIndex := 599, descriptorIndex := 600, attributes := #[] }, { accessFlags := 24, nameIndex := 1125, descriptorIndex := 18, attributes := #[] }, { accessFlags := 24, nameIndex := 1127, descriptorIndex := 18, attributes := #[] }])
  fields := #[{ name := "value", type := (.array .byte), accessFlags := 18, slot := 0, constantValue := 0 }, { name := "coder", type := .byte, accessFlags := 18, slot := 1, constantValue := 0 }, { name := "hash", type := .int, accessFlags := 2, slot := 2, constantValue := 0 }, { name := "hashIsZero", type := .boolean, accessFlags := 2, slot := 3, constantValue := 0 }, { name := "serialVersionUID", type := .long, accessFlags := 26, slot := 0, constantValue := 0 }, { name := "COMPACT_STRINGS", type := .boolean, accessFlags := 24, slot := 1, constantValue := 0 }, { name := "serialPersistentFields", type := (.array (.object "java/io/ObjectStreamField")), accessFlags := 26, slot := 2, constantValue := 0 }, { name := "REPL", type := .char, accessFlags := 26, slot := 3, constantValue := 0 }, { name := "CASE_INSENSITIVE_ORDER", type := (.object "java/util/Comparator"), accessFlags := 25, slot := 4, constantValue := 0 }, { name := "LATIN1", type := .byte, accessFlags := 24, slot := 5, constantValue := 0 }, { name := "UTF16", type := .byte, accessFlags := 24, slot := 6, constantValue := 0 }]
  methods := #[k7m0, k7m1, k7m2, k7m3]
  instanceTypes := #[(.array .byte), .byte, .int, .boolean]
  staticTypes := #[.long, .boolean, (.array (.object "java/io/ObjectStreamField")), .char, (.object "java/util/Comparator"), .byte, .byte]
  resolved := Array.replicate 1451 none
  statics := some 0 }

def pool8 : Array CpInfo := pool [(1, .methodref 2 3), (0, .class_ 4), (0, .nameAndType 5 6), (0, u "java/lang/Object"), (0, u "<init>"), (0, u "()V"), (0, .class_ 8), (0, u "java/lang/Record")] 13

def k8c0 : Code := { maxStack := 1, maxLocals := 1, code := jdk_30_method_1_code, exceptionTable := #[], attributes := #[] }
def k8m0 : Method := { name := "<init>", desc := "()V", sig := { parameters := [], returnType := none }, accessFlags := 4, code := some k8c0 }
/-- java/lang/Record -/
def k8 : Class := { plain "java/lang/Record" (some 0) with
  accessFlags := 1057
  interfaces := #[]
  cf := some (fileOf pool8 7 #[] #[{ accessFlags := 4, nameIndex := 5, descriptorIndex := 6, attributes := #[] }] 1057 2 #[] #[])
  fields := #[]
  methods := #[k8m0]
  instanceTypes := #[]
  staticTypes := #[]
  resolved := Array.replicate 22 none
  statics := none }

def pool9 : Array CpInfo := pool [(1, .methodref 2 3), (0, .class_ 4), (0, .nameAndType 5 6), (0, u "java/lang/Record"), (0, u "<init>"), (0, u "()V"), (0, .fieldref 8 9), (0, .class_ 10), (0, .nameAndType 11 12), (0, u "org/bindery/DocumentElement"), (0, u "namespace"), (0, u "Ljava/lang/String;"), (0, .fieldref 8 14), (0, .nameAndType 15 12), (0, u "localName"), (0, .fieldref 8 17), (0, .nameAndType 18 12), (0, u "targetNamespace"), (0, .fieldref 8 20), (0, .nameAndType 21 22), (0, u "end"), (0, u "Lorg/bindery/Position;"), (23, u "(Ljava/lang/String;Ljava/lang/String;Ljava/lang/String;Lorg/bindery/Position;)V"), (0, .methodref 48 49), (0, .class_ 50), (0, .nameAndType 51 52), (0, u "java/lang/String"), (0, u "equals"), (0, u "(Ljava/lang/Object;)Z"), (38, u "is"), (0, u "(Ljava/lang/String;Ljava/lang/String;)Z")] 38

def k9c0 : Code := { maxStack := 2, maxLocals := 5, code := prog_37_method_1_code, exceptionTable := #[], attributes := #[] }
def k9m0 : Method := { name := "<init>", desc := "(Ljava/lang/String;Ljava/lang/String;Ljava/lang/String;Lorg/bindery/Position;)V", sig := { parameters := [(.object "java/lang/String"), (.object "java/lang/String"), (.object "java/lang/String"), (.object "org/bindery/Position")], returnType := none }, accessFlags := 0, code := some k9c0 }
def k9c1 : Code := { maxStack := 2, maxLocals := 3, code := prog_37_method_3_code, exceptionTable := #[], attributes := #[] }
def k9m1 : Method := { name := "is", desc := "(Ljava/lang/String;Ljava/lang/String;)Z", sig := { parameters := [(.object "java/lang/String"), (.object "java/lang/String")], returnType := some .boolean }, accessFlags := 0, code := some k9c1 }
/-- org/bindery/DocumentElement -/
def k9 : Class := { plain "org/bindery/DocumentElement" (some 8) with
  accessFlags := 48
  interfaces := #[]
  cf := some (fileOf pool9 8 #[] #[{ accessFlags := 0, nameIndex := 5, descriptorIndex := 46, attributes := #[] }, { accessFlags := 0, nameIndex := 91, descriptorIndex := 92, attributes := #[] }] 48 2 #[] #[{ accessFlags := 18, nameIndex := 11, descriptorIndex := 12, attributes := #[] }, { accessFlags := 18, nameIndex := 15, descriptorIndex := 12, attributes := #[] }, { accessFlags := 18, nameIndex := 18, descriptorIndex := 12, attributes := #[] }, { accessFlags := 18, nameIndex := 21, descriptorIndex := 22, attributes := #[] }])
  fields := #[{ name := "namespace", type := (.object "java/lang/String"), accessFlags := 18, slot := 0, constantValue := 0 }, { name := "localName", type := (.object "java/lang/String"), accessFlags := 18, slot := 1, constantValue := 0 }, { name := "targetNamespace", type := (.object "java/lang/String"), accessFlags := 18, slot := 2, constantValue := 0 }, { name := "end", type := (.object "org/bindery/Position"), accessFlags := 18, slot := 3, constantValue := 0 }]
  methods := #[k9m0, k9m1]
  instanceTypes := #[(.object "java/lang/String"), (.object "java/lang/String"), (.object "java/lang/String"), (.object "org/bindery/Position")]
  staticTypes := #[]
  resolved := Array.replicate 131 none
  statics := none }

def pool10 : Array CpInfo := pool [(1, .methodref 2 3), (0, .class_ 4), (0, .nameAndType 5 6), (0, u "java/lang/Record"), (0, u "<init>"), (0, u "()V"), (0, .fieldref 8 9), (0, .class_ 10), (0, .nameAndType 11 12), (0, u "org/bindery/Position"), (0, u "line"), (0, u "I"), (0, .fieldref 8 14), (0, .nameAndType 15 12), (0, u "column"), (12, u "(II)V")] 36

def k10c0 : Code := { maxStack := 2, maxLocals := 3, code := prog_75_method_1_code, exceptionTable := #[], attributes := #[] }
def k10m0 : Method := { name := "<init>", desc := "(II)V", sig := { parameters := [.int, .int], returnType := none }, accessFlags := 0, code := some k10c0 }
/-- org/bindery/Position -/
def k10 : Class := { plain "org/bindery/Position" (some 8) with
  accessFlags := 48
  interfaces := #[]
  cf := some (fileOf pool10 8 #[] #[{ accessFlags := 0, nameIndex := 5, descriptorIndex := 28, attributes := #[] }] 48 2 #[] #[{ accessFlags := 18, nameIndex := 11, descriptorIndex := 12, attributes := #[] }, { accessFlags := 18, nameIndex := 15, descriptorIndex := 12, attributes := #[] }])
  fields := #[{ name := "line", type := .int, accessFlags := 18, slot := 0, constantValue := 0 }, { name := "column", type := .int, accessFlags := 18, slot := 1, constantValue := 0 }]
  methods := #[k10m0]
  instanceTypes := #[.int, .int]
  staticTypes := #[]
  resolved := Array.replicate 65 none
  statics := none }

def pool11 : Array CpInfo := pool [(4, .class_ 6), (1, u "java/lang/Object"), (0, u "<init>"), (0, u "()V"), (5, .class_ 16), (1, u "java/lang/StringLatin1"), (104, u "$assertionsDisabled"), (0, u "Z"), (98, .class_ 223), (1, u "java/lang/StringLatin1$LinesSpliterator"), (57, u "equals"), (0, u "([B[B)Z"), (107, .class_ 391), (0, u "java/lang/StringLatin1$CharsSpliterator")] 3

def k11m0 : Method := { name := "<init>", desc := "()V", sig := { parameters := [], returnType := none }, accessFlags := 0, code := none }
def k11c1 : Code := { maxStack := 3, maxLocals := 3, code := jdk_43_method_13_code, exceptionTable := #[], attributes := #[] }
def k11m1 : Method := { name := "equals", desc := "([B[B)Z", sig := { parameters := [(.array .byte), (.array .byte)], returnType := some .boolean }, accessFlags := 9, code := some k11c1 }
/-- java/lang/StringLatin1 -/
def k11 : Class := { plain "java/lang/StringLatin1" (some 0) with
  accessFlags := 48
  interfaces := #[]
  cf := some (fileOf pool11 14 #[.nestMembers #[390, 221]] #[{ accessFlags := 0, nameIndex := 7, descriptorIndex := 8, attributes := #[] }, { accessFlags := 9, nameIndex := 281, descriptorIndex := 282, attributes := #[] }] 48 4 #[] #[{ accessFlags := 4120, nameIndex := 121, descriptorIndex := 122, attributes := #[] }])
  fields := #[{ name := "$assertionsDisabled", type := .boolean, accessFlags := 4120, slot := 0, constantValue := 0 }]
  methods := #[k11m0, k11m1]
  instanceTypes := #[]
  staticTypes := #[.boolean]
  resolved := Array.replicate 395 none
  statics := none }

def pool12 : Array CpInfo := pool [(6, .class_ 8), (1, u "java/lang/Object"), (0, u "<init>"), (0, u "()V"), (1, .class_ 14), (1, u "java/lang/StringUTF16"), (31, u "$assertionsDisabled"), (0, u "Z"), (13, u "HI_BYTE_SHIFT"), (0, u "I"), (2, u "LO_BYTE_SHIFT"), (49, .methodref 12 116), (0, .nameAndType 117 118), (0, u "compress"), (0, u "([CI[BII)I"), (3, u "([CII)[B"), (138, u "coderFromArrayLen"), (0, u "([BI)B"), (106, .class_ 371), (1, u "java/lang/StringUTF16$LinesSpliterator"), (58, u "MAX_LENGTH"), (196, .class_ 628), (0, u "java/lang/StringUTF16$CodePointsSpliterator"), (0, .class_ 630), (0, u "java/lang/StringUTF16$CharsSpliterator")] 4

def k12m0 : Method := { name := "<init>", desc := "()V", sig := { parameters := [], returnType := none }, accessFlags := 0, code := none }
def k12c1 : Code := { maxStack := 2, maxLocals := 2, code := jdk_52_method_15_code, exceptionTable := #[], attributes := #[] }
def k12m1 : Method := { name := "coderFromArrayLen", desc := "([BI)B", sig := { parameters := [(.array .byte), .int], returnType := some .byte }, accessFlags := 8, code := some k12c1 }
def k12c2 : Code := { maxStack := 5, maxLocals := 6, code := jdk_52_method_16_code, exceptionTable := #[], attributes := #[] }
def k12m2 : Method := { name := "compress", desc := "([CII)[B", sig := { parameters := [(.array .char), .int, .int], returnType := some (.array .byte) }, accessFlags := 9, code := some k12c2 }
def k12c3 : Code := { maxStack := 3, maxLocals := 7, code := jdk_52_method_21_code, exceptionTable := #[], attributes := #[] }
def k12m3 : Method := { name := "compress", desc := "([CI[BII)I", sig := { parameters := [(.array .char), .int, (.array .byte), .int, .int], returnType := some .int }, accessFlags := 9, code := some k12c3 }
/-- java/lang/StringUTF16 -/
def k12 : Class := { plain "java/lang/StringUTF16" (some 0) with
  accessFlags := 48
  interfaces := #[]
  cf := some (fileOf pool12 12 #[.nestMembers #[627, 629, 369]] #[{ accessFlags := 0, nameIndex := 9, descriptorIndex := 10, attributes := #[] }, { accessFlags := 8, nameIndex := 261, descriptorIndex := 262, attributes := #[] }, { accessFlags := 9, nameIndex := 117, descriptorIndex := 122, attributes := #[] }, { accessFlags := 9, nameIndex := 117, descriptorIndex := 118, attributes := #[] }] 48 6 #[] #[{ accessFlags := 26, nameIndex := 61, descriptorIndex := 62, attributes := #[] }, { accessFlags := 26, nameIndex := 65, descriptorIndex := 62, attributes := #[] }, { accessFlags := 24, nameIndex := 430, descriptorIndex := 62, attributes := #[] }, { accessFlags := 4120, nameIndex := 46, descriptorIndex := 47, attributes := #[] }])
  fields := #[{ name := "HI_BYTE_SHIFT", type := .int, accessFlags := 26, slot := 0, constantValue := 0 }, { name := "LO_BYTE_SHIFT", type := .int, accessFlags := 26, slot := 1, constantValue := 0 }, { name := "MAX_LENGTH", type := .int, accessFlags := 24, slot := 2, constantValue := 0 }, { name := "$assertionsDisabled", type := .boolean, accessFlags := 4120, slot := 3, constantValue := 0 }]
  methods := #[k12m0, k12m1, k12m2, k12m3]
  instanceTypes := #[]
  staticTypes := #[.int, .int, .int, .boolean]
  resolved := Array.replicate 635 none
  statics := none }

def pool13 : Array CpInfo := pool [(2, .class_ 4), (1, u "java/lang/Object"), (0, u "<init>"), (0, u "()V"), (17, .class_ 26), (1, u "jdk/internal/util/Preconditions"), (28, .class_ 56), (0, u "jdk/internal/util/Preconditions$4"), (57, .class_ 115), (0, u "jdk/internal/util/Preconditions$1"), (7, u "SIOOBE_FORMATTER"), (0, u "Ljava/util/function/BiFunction;"), (0, .class_ 126), (0, u "jdk/internal/util/Preconditions$2"), (3, u "AIOOBE_FORMATTER"), (0, .class_ 132), (0, u "jdk/internal/util/Preconditions$3"), (3, u "IOOBE_FORMATTER")] 57

def k13m0 : Method := { name := "<init>", desc := "()V", sig := { parameters := [], returnType := none }, accessFlags := 1, code := none }
/-- jdk/internal/util/Preconditions -/
def k13 : Class := { plain "jdk/internal/util/Preconditions" (some 0) with
  accessFlags := 33
  interfaces := #[]
  cf := some (fileOf pool13 24 #[.nestMembers #[55, 131, 125, 114]] #[{ accessFlags := 1, nameIndex := 5, descriptorIndex := 6, attributes := #[] }] 33 2 #[] #[{ accessFlags := 25, nameIndex := 123, descriptorIndex := 124, attributes := #[] }, { accessFlags := 25, nameIndex := 130, descriptorIndex := 124, attributes := #[] }, { accessFlags := 25, nameIndex := 136, descriptorIndex := 124, attributes := #[] }])
  fields := #[{ name := "SIOOBE_FORMATTER", type := (.object "java/util/function/BiFunction"), accessFlags := 25, slot := 0, constantValue := 0 }, { name := "AIOOBE_FORMATTER", type := (.object "java/util/function/BiFunction"), accessFlags := 25, slot := 1, constantValue := 0 }, { name := "IOOBE_FORMATTER", type := (.object "java/util/function/BiFunction"), accessFlags := 25, slot := 2, constantValue := 0 }]
  methods := #[k13m0]
  instanceTypes := #[]
  staticTypes := #[(.object "java/util/function/BiFunction"), (.object "java/util/function/BiFunction"), (.object "java/util/function/BiFunction")]
  resolved := Array.replicate 194 none
  statics := some 1 }

def pool14 : Array CpInfo := pool [(9, u "<init>"), (6, .class_ 18), (1, u "java/lang/Object"), (0, u "()V"), (1, .class_ 23), (1, u "jdk/internal/util/ArraysSupport"), (0, u "LOG2_ARRAY_LONG_INDEX_SCALE"), (0, u "I"), (2, u "U"), (0, u "Ljdk/internal/misc/Unsafe;"), (8, u "BIG_ENDIAN"), (0, u "Z"), (8, u "LOG2_BYTE_BIT_SIZE"), (4, u "LOG2_ARRAY_INT_INDEX_SCALE"), (54, u "JLA"), (0, u "Ljdk/internal/access/JavaLangAccess;"), (11, u "LOG2_ARRAY_BOOLEAN_INDEX_SCALE"), (9, u "LOG2_ARRAY_BYTE_INDEX_SCALE"), (5, u "LOG2_ARRAY_CHAR_INDEX_SCALE"), (5, u "LOG2_ARRAY_SHORT_INDEX_SCALE"), (18, u "LOG2_ARRAY_FLOAT_INDEX_SCALE"), (24, u "LOG2_ARRAY_DOUBLE_INDEX_SCALE"), (89, u "T_BOOLEAN"), (2, u "T_CHAR"), (1, u "T_FLOAT"), (1, u "T_DOUBLE"), (1, u "T_BYTE"), (1, u "T_SHORT"), (1, u "T_INT"), (1, u "T_LONG"), (1, u "SOFT_MAX_ARRAY_LENGTH")] 83

def k14m0 : Method := { name := "<init>", desc := "()V", sig := { parameters := [], returnType := none }, accessFlags := 2, code := none }
/-- jdk/internal/util/ArraysSupport -/
def k14 : Class := { plain "jdk/internal/util/ArraysSupport" (some 0) with
  accessFlags := 33
  interfaces := #[]
  cf := some (fileOf pool14 21 #[] #[{ accessFlags := 2, nameIndex := 9, descriptorIndex := 19, attributes := #[] }] 33 16 #[] #[{ accessFlags := 24, nameIndex := 28, descriptorIndex := 29, attributes := #[] }, { accessFlags := 26, nameIndex := 38, descriptorIndex := 39, attributes := #[] }, { accessFlags := 25, nameIndex := 121, descriptorIndex := 25, attributes := #[] }, { accessFlags := 25, nameIndex := 131, descriptorIndex := 25, attributes := #[] }, { accessFlags := 25, nameIndex := 137, descriptorIndex := 25, attributes := #[] }, { accessFlags := 25, nameIndex := 143, descriptorIndex := 25, attributes := #[] }, { accessFlags := 25, nameIndex := 53, descriptorIndex := 25, attributes := #[] }, { accessFlags := 25, nameIndex := 24, descriptorIndex := 25, attributes := #[] }, { accessFlags := 25, nameIndex := 162, descriptorIndex := 25, attributes := #[] }, { accessFlags := 25, nameIndex := 187, descriptorIndex := 25, attributes := #[] }, { accessFlags := 26, nameIndex := 48, descriptorIndex := 25, attributes := #[] }, { accessFlags := 25, nameIndex := 277, descriptorIndex := 25, attributes := #[] }, { accessFlags := 25, nameIndex := 280, descriptorIndex := 25, attributes := #[] }, { accessFlags := 25, nameIndex := 282, descriptorIndex := 25, attributes := #[] }, { accessFlags := 25, nameIndex := 284, descriptorIndex := 25, attributes := #[] }, { accessFlags := 25, nameIndex := 286, descriptorIndex := 25, attributes := #[] }, { accessFlags := 25, nameIndex := 288, descriptorIndex := 25, attributes := #[] }, { accessFlags := 25, nameIndex := 290, descriptorIndex := 25, attributes := #[] }, { accessFlags := 25, nameIndex := 292, descriptorIndex := 25, attributes := #[] }, { accessFlags := 26, nameIndex := 108, descriptorIndex := 109, attributes := #[] }, { accessFlags := 25, nameIndex := 294, descriptorIndex := 25, attributes := #[] }])
  fields := #[{ name := "U", type := (.object "jdk/internal/misc/Unsafe"), accessFlags := 24, slot := 0, constantValue := 0 }, { name := "BIG_ENDIAN", type := .boolean, accessFlags := 26, slot := 1, constantValue := 0 }, { name := "LOG2_ARRAY_BOOLEAN_INDEX_SCALE", type := .int, accessFlags := 25, slot := 2, constantValue := 0 }, { name := "LOG2_ARRAY_BYTE_INDEX_SCALE", type := .int, accessFlags := 25, slot := 3, constantValue := 0 }, { name := "LOG2_ARRAY_CHAR_INDEX_SCALE", type := .int, accessFlags := 25, slot := 4, constantValue := 0 }, { name := "LOG2_ARRAY_SHORT_INDEX_SCALE", type := .int, accessFlags := 25, slot := 5, constantValue := 0 }, { name := "LOG2_ARRAY_INT_INDEX_SCALE", type := .int, accessFlags := 25, slot := 6, constantValue := 0 }, { name := "LOG2_ARRAY_LONG_INDEX_SCALE", type := .int, accessFlags := 25, slot := 7, constantValue := 0 }, { name := "LOG2_ARRAY_FLOAT_INDEX_SCALE", type := .int, accessFlags := 25, slot := 8, constantValue := 0 }, { name := "LOG2_ARRAY_DOUBLE_INDEX_SCALE", type := .int, accessFlags := 25, slot := 9, constantValue := 0 }, { name := "LOG2_BYTE_BIT_SIZE", type := .int, accessFlags := 26, slot := 10, constantValue := 0 }, { name := "T_BOOLEAN", type := .int, accessFlags := 25, slot := 11, constantValue := 0 }, { name := "T_CHAR", type := .int, accessFlags := 25, slot := 12, constantValue := 0 }, { name := "T_FLOAT", type := .int, accessFlags := 25, slot := 13, constantValue := 0 }, { name := "T_DOUBLE", type := .int, accessFlags := 25, slot := 14, constantValue := 0 }, { name := "T_BYTE", type := .int, accessFlags := 25, slot := 15, constantValue := 0 }, { name := "T_SHORT", type := .int, accessFlags := 25, slot := 16, constantValue := 0 }, { name := "T_INT", type := .int, accessFlags := 25, slot := 17, constantValue := 0 }, { name := "T_LONG", type := .int, accessFlags := 25, slot := 18, constantValue := 0 }, { name := "JLA", type := (.object "jdk/internal/access/JavaLangAccess"), accessFlags := 26, slot := 19, constantValue := 0 }, { name := "SOFT_MAX_ARRAY_LENGTH", type := .int, accessFlags := 25, slot := 20, constantValue := 0 }]
  methods := #[k14m0]
  instanceTypes := #[]
  staticTypes := #[(.object "jdk/internal/misc/Unsafe"), .boolean, .int, .int, .int, .int, .int, .int, .int, .int, .int, .int, .int, .int, .int, .int, .int, .int, .int, (.object "jdk/internal/access/JavaLangAccess"), .int]
  resolved := Array.replicate 378 none
  statics := none }

def pool15 : Array CpInfo := pool [(1, u "java/lang/Cloneable"), (0, .class_ 1), (0, u "java/lang/Object"), (0, .class_ 3)] 3

/-- java/lang/Cloneable -/
def k15 : Class := { plain "java/lang/Cloneable" (some 0) with
  accessFlags := 1537
  interfaces := #[]
  cf := some (fileOf pool15 2 #[] #[] 1537 4 #[] #[])
  fields := #[]
  methods := #[]
  instanceTypes := #[]
  staticTypes := #[]
  resolved := Array.replicate 8 none
  statics := none }

/-- the primitive byte -/
def k16 : Class := { plain "byte" none with kind := .primitive 'B', accessFlags := 0x411 }
/-- [B -/
def k17 : Class := { plain "[B" (some 0) with kind := .array 16 .byte, interfaces := #[15, 2], accessFlags := 1041 }

/-- the primitive char -/
def k18 : Class := { plain "char" none with kind := .primitive 'C', accessFlags := 0x411 }
/-- [C -/
def k19 : Class := { plain "[C" (some 0) with kind := .array 18 .char, interfaces := #[15, 2], accessFlags := 1041 }

/-- the primitive int -/
def k20 : Class := { plain "int" none with kind := .primitive 'I', accessFlags := 0x411 }
/-- [I -/
def k21 : Class := { plain "[I" (some 0) with kind := .array 20 .int, interfaces := #[15, 2], accessFlags := 1041 }

def heap : Heap := #[{ cls := 7, slots := #[.long 0, .int 1, .null, .int 0, .null, .int 0, .int 0], vm := .statics 7 },
  { cls := 13, slots := #[.null, .null, .null], vm := .statics 13 }]
def classes : Array Class := #[k0, k1, k2, k3, k4, k5, k6, k7, k8, k9, k10, k11, k12, k13, k14, k15, k16, k17, k18, k19, k20, k21]
def interned : List (Array UInt16 × Addr) := []
def slotsUsed : Nat := 10
def theMethod : MethodId := ⟨1, 3⟩
def args0 : Array Value := #[.int 5, .int 2, .int 1, .int 66]
def aboutOver (below : List Frame) : State where
  vm := { classes := classes, interned := interned.toArray }
  heap := heap
  slotsUsed := slotsUsed
  threads := #[{ frames := .invoking theMethod args0 :: below }]
def below0 : List Frame := [.native { method := ⟨0, 0⟩, args := #[] }]
def about1 : State := aboutOver below0
def p0 : Program := .bare "" "" ""
def e0 : Env := launch0.env 0 0 0
theorem w_frames : about1.frames = Frame.invoking theMethod args0 :: below0 := rfl
set_option maxRecDepth 65536 in
theorem w_args : argsFit about1.vm theMethod args0 = true := by decide +kernel
set_option maxRecDepth 65536 in
theorem w_heap : heapFits about1 = true := by decide +kernel
set_option maxRecDepth 65536 in
theorem w_runnable : about1.curStatus? = some .runnable := by decide +kernel
set_option maxRecDepth 65536 in
theorem w_alone : about1.alone = true := by decide +kernel
set_option maxRecDepth 65536 in
theorem w_named : about1.methodNamed? x = some theMethod := by decide +kernel
set_option maxRecDepth 65536 in
theorem w_hears : about1.hears theMethod below0 = true := by decide +kernel
set_option maxRecDepth 65536 in
theorem w_ripe : about1.ripe theMethod args0 below0 = true := by decide +kernel
theorem w_running : about1.status = .running := rfl
set_option maxRecDepth 65536 in
theorem w_room : about1.hasRoom e0.platform room_1 = true :=
  launch0.hasRoom_least _ room_1 (by decide +kernel) (by decide +kernel) (by decide +kernel) (by decide +kernel) (by decide +kernel) (by decide +kernel)
theorem allAtoms_all (ts : List Jvm.Cond) (a : Array Jvm.Value) (st : Jvm.State) : (allAtoms ts).before a st = ts.all (fun c => c.before a st) := by
  induction ts with
  | nil => rfl
  | cons c t ih =>
    show (Jvm.Cond.and c (allAtoms t)).before a st = _
    rw [Jvm.Cond.before_and, ih, List.all_cons]
def words1 : List Jvm.Cond := Jvm.Cond.code x code maxLocals ret :: tables_1
/-- a 'code' word, met by the world's own term for the bytes: nothing is compared byte by byte -/
theorem code_word {y : MethodName} {bytes : ByteArray} {mx : Nat} {rt : Option FieldType} {a : Array Value} {s : State} {m : MethodId} {meth : Method} {c : Code} (h1 : s.methodNamed? y = some m) (h2 : s.vm.method? m = some meth) (h3 : meth.code = some c) (h4 : c.code = bytes)
    (h5 : (c.maxLocals == mx && c.exceptionTable.isEmpty && decide (c.maxStack ≤ mostOperands) && decide (meth.sig.returnType = rt) && !meth.locks && decide (parseMethodDescriptor y.desc = some meth.sig)) = true) : (Jvm.Cond.code y bytes mx rt).before a s = true := by
  simp only [Bool.and_eq_true, beq_iff_eq, Bool.not_eq_true', decide_eq_true_eq] at h5
  obtain ⟨⟨⟨⟨⟨g1, g2⟩, g3⟩, g4⟩, g5⟩, g6⟩ := h5
  simp [Cond.before, Cond.holds, Cond.value, h1, h2, h3, h4, g1, g2, g3, g4, g5, g6]
def isCode : Jvm.Cond → Bool
  | .code _ _ _ _ => true
  | _ => false
theorem all_split {L : List Jvm.Cond} {P : Jvm.Cond → Bool} (h1 : L.all (fun c => isCode c || P c) = true) (h2 : ∀ c ∈ L.filter isCode, P c = true) : L.all P = true := by
  refine List.all_eq_true.mpr fun c hc => ?_
  have h := List.all_eq_true.mp h1 c hc
  rcases Bool.eq_false_or_eq_true (isCode c) with hi | hi
  · exact h2 c (List.mem_filter.mpr ⟨hc, hi⟩)
  · simpa [hi] using h
set_option maxRecDepth 65536 in
theorem w_c0 : (Jvm.Cond.code x code maxLocals ret).before args0 about1 = true := code_word (m := ⟨1, 3⟩) (meth := k1m3) (c := k1c3) (by decide +kernel) rfl rfl rfl (by decide +kernel)
set_option maxRecDepth 65536 in
theorem w_c1 : (Jvm.Cond.code ({ cls := "org/bindery/DocumentElementIsPinLaw", name := "str", desc := "(III)Ljava/lang/String;" } : Jvm.MethodName) method_2_code (3 : Nat) (Option.some (Jvm.ClassFile.FieldType.object "java/lang/String"))).before args0 about1 = true := code_word (m := ⟨1, 1⟩) (meth := k1m1) (c := k1c1) (by decide +kernel) rfl rfl rfl (by decide +kernel)
set_option maxRecDepth 65536 in
theorem w_c2 : (Jvm.Cond.code ({ cls := "java/lang/String", name := "<init>", desc := "([C)V" } : Jvm.MethodName) jdk_42_method_3_code (2 : Nat) (Option.none : Option Jvm.ClassFile.FieldType)).before args0 about1 = true := code_word (m := ⟨7, 1⟩) (meth := k7m1) (c := k7c1) (by decide +kernel) rfl rfl rfl (by decide +kernel)
set_option maxRecDepth 65536 in
theorem w_c3 : (Jvm.Cond.code ({ cls := "java/lang/String", name := "<init>", desc := "([CIILjava/lang/Void;)V" } : Jvm.MethodName) jdk_42_method_149_code (6 : Nat) (Option.none : Option Jvm.ClassFile.FieldType)).before args0 about1 = true := code_word (m := ⟨7, 3⟩) (meth := k7m3) (c := k7c3) (by decide +kernel) rfl rfl rfl (by decide +kernel)
set_option maxRecDepth 65536 in
theorem w_c4 : (Jvm.Cond.code ({ cls := "java/lang/Object", name := "<init>", desc := "()V" } : Jvm.MethodName) object_method_1_code (1 : Nat) (Option.none : Option Jvm.ClassFile.FieldType)).before args0 about1 = true := code_word (m := ⟨0, 0⟩) (meth := k0m0) (c := k0c0) (by decide +kernel) rfl rfl rfl (by decide +kernel)
set_option maxRecDepth 65536 in
theorem w_c5 : (Jvm.Cond.code ({ cls := "org/bindery/Position", name := "<init>", desc := "(II)V" } : Jvm.MethodName) prog_75_method_1_code (3 : Nat) (Option.none : Option Jvm.ClassFile.FieldType)).before args0 about1 = true := code_word (m := ⟨10, 0⟩) (meth := k10m0) (c := k10c0) (by decide +kernel) rfl rfl rfl (by decide +kernel)
set_option maxRecDepth 65536 in
theorem w_c6 : (Jvm.Cond.code ({ cls := "java/lang/Record", name := "<init>", desc := "()V" } : Jvm.MethodName) jdk_30_method_1_code (1 : Nat) (Option.none : Option Jvm.ClassFile.FieldType)).before args0 about1 = true := code_word (m := ⟨8, 0⟩) (meth := k8m0) (c := k8c0) (by decide +kernel) rfl rfl rfl (by decide +kernel)
set_option maxRecDepth 65536 in
theorem w_c7 : (Jvm.Cond.code ({ cls := "org/bindery/DocumentElement", name := "<init>", desc := "(Ljava/lang/String;Ljava/lang/String;Ljava/lang/String;Lorg/bindery/Position;)V" } : Jvm.MethodName) prog_37_method_1_code (5 : Nat) (Option.none : Option Jvm.ClassFile.FieldType)).before args0 about1 = true := code_word (m := ⟨9, 0⟩) (meth := k9m0) (c := k9c0) (by decide +kernel) rfl rfl rfl (by decide +kernel)
set_option maxRecDepth 65536 in
theorem w_c8 : (Jvm.Cond.code ({ cls := "org/bindery/DocumentElement", name := "is", desc := "(Ljava/lang/String;Ljava/lang/String;)Z" } : Jvm.MethodName) prog_37_method_3_code (3 : Nat) (Option.some Jvm.ClassFile.FieldType.boolean)).before args0 about1 = true := code_word (m := ⟨9, 1⟩) (meth := k9m1) (c := k9c1) (by decide +kernel) rfl rfl rfl (by decide +kernel)
set_option maxRecDepth 65536 in
theorem w_c9 : (Jvm.Cond.code ({ cls := "java/lang/String", name := "equals", desc := "(Ljava/lang/Object;)Z" } : Jvm.MethodName) jdk_42_method_66_code (3 : Nat) (Option.some Jvm.ClassFile.FieldType.boolean)).before args0 about1 = true := code_word (m := ⟨7, 2⟩) (meth := k7m2) (c := k7c2) (by decide +kernel) rfl rfl rfl (by decide +kernel)
set_option maxRecDepth 65536 in
theorem w_c10 : (Jvm.Cond.code ({ cls := "java/lang/StringLatin1", name := "equals", desc := "([B[B)Z" } : Jvm.MethodName) jdk_43_method_13_code (3 : Nat) (Option.some Jvm.ClassFile.FieldType.boolean)).before args0 about1 = true := code_word (m := ⟨11, 1⟩) (meth := k11m1) (c := k11c1) (by decide +kernel) rfl rfl rfl (by decide +kernel)
set_option maxRecDepth 65536 in
theorem w_c11 : (Jvm.Cond.code ({ cls := "org/bindery/DocumentElementIsPinLaw", name := "same", desc := "(IIIIII)Z" } : Jvm.MethodName) method_3_code (6 : Nat) (Option.some Jvm.ClassFile.FieldType.boolean)).before args0 about1 = true := code_word (m := ⟨1, 2⟩) (meth := k1m2) (c := k1c2) (by decide +kernel) rfl rfl rfl (by decide +kernel)
set_option maxRecDepth 65536 in
theorem w_c12 : (Jvm.Cond.code ({ cls := "java/lang/StringUTF16", name := "compress", desc := "([CII)[B" } : Jvm.MethodName) jdk_52_method_16_code (6 : Nat) (Option.some (Jvm.ClassFile.FieldType.array Jvm.ClassFile.FieldType.byte))).before args0 about1 = true := code_word (m := ⟨12, 2⟩) (meth := k12m2) (c := k12c2) (by decide +kernel) rfl rfl rfl (by decide +kernel)
set_option maxRecDepth 65536 in
theorem w_c13 : (Jvm.Cond.code ({ cls := "java/lang/StringUTF16", name := "compress", desc := "([CI[BII)I" } : Jvm.MethodName) jdk_52_method_21_code (7 : Nat) (Option.some Jvm.ClassFile.FieldType.int)).before args0 about1 = true := code_word (m := ⟨12, 3⟩) (meth := k12m3) (c := k12c3) (by decide +kernel) rfl rfl rfl (by decide +kernel)
set_option maxRecDepth 65536 in
theorem w_c14 : (Jvm.Cond.code ({ cls := "java/lang/StringUTF16", name := "coderFromArrayLen", desc := "([BI)B" } : Jvm.MethodName) jdk_52_method_15_code (2 : Nat) (Option.some Jvm.ClassFile.FieldType.byte)).before args0 about1 = true := code_word (m := ⟨12, 1⟩) (meth := k12m1) (c := k12c1) (by decide +kernel) rfl rfl rfl (by decide +kernel)
def codes1 : List Jvm.Cond := [Jvm.Cond.code x code maxLocals ret, Jvm.Cond.code ({ cls := "org/bindery/DocumentElementIsPinLaw", name := "str", desc := "(III)Ljava/lang/String;" } : Jvm.MethodName) method_2_code (3 : Nat) (Option.some (Jvm.ClassFile.FieldType.object "java/lang/String")), Jvm.Cond.code ({ cls := "java/lang/String", name := "<init>", desc := "([C)V" } : Jvm.MethodName) jdk_42_method_3_code (2 : Nat) (Option.none : Option Jvm.ClassFile.FieldType), Jvm.Cond.code ({ cls := "java/lang/String", name := "<init>", desc := "([CIILjava/lang/Void;)V" } : Jvm.MethodName) jdk_42_method_149_code (6 : Nat) (Option.none : Option Jvm.ClassFile.FieldType), Jvm.Cond.code ({ cls := "java/lang/Object", name := "<init>", desc := "()V" } : Jvm.MethodName) object_method_1_code (1 : Nat) (Option.none : Option Jvm.ClassFile.FieldType), Jvm.Cond.code ({ cls := "org/bindery/Position", name := "<init>", desc := "(II)V" } : Jvm.MethodName) prog_75_method_1_code (3 : Nat) (Option.none : Option Jvm.ClassFile.FieldType), Jvm.Cond.code ({ cls := "java/lang/Record", name := "<init>", desc := "()V" } : Jvm.MethodName) jdk_30_method_1_code (1 : Nat) (Option.none : Option Jvm.ClassFile.FieldType), Jvm.Cond.code ({ cls := "org/bindery/DocumentElement", name := "<init>", desc := "(Ljava/lang/String;Ljava/lang/String;Ljava/lang/String;Lorg/bindery/Position;)V" } : Jvm.MethodName) prog_37_method_1_code (5 : Nat) (Option.none : Option Jvm.ClassFile.FieldType), Jvm.Cond.code ({ cls := "org/bindery/DocumentElement", name := "is", desc := "(Ljava/lang/String;Ljava/lang/String;)Z" } : Jvm.MethodName) prog_37_method_3_code (3 : Nat) (Option.some Jvm.ClassFile.FieldType.boolean), Jvm.Cond.code ({ cls := "java/lang/String", name := "equals", desc := "(Ljava/lang/Object;)Z" } : Jvm.MethodName) jdk_42_method_66_code (3 : Nat) (Option.some Jvm.ClassFile.FieldType.boolean), Jvm.Cond.code ({ cls := "java/lang/StringLatin1", name := "equals", desc := "([B[B)Z" } : Jvm.MethodName) jdk_43_method_13_code (3 : Nat) (Option.some Jvm.ClassFile.FieldType.boolean), Jvm.Cond.code ({ cls := "org/bindery/DocumentElementIsPinLaw", name := "same", desc := "(IIIIII)Z" } : Jvm.MethodName) method_3_code (6 : Nat) (Option.some Jvm.ClassFile.FieldType.boolean), Jvm.Cond.code ({ cls := "java/lang/StringUTF16", name := "compress", desc := "([CII)[B" } : Jvm.MethodName) jdk_52_method_16_code (6 : Nat) (Option.some (Jvm.ClassFile.FieldType.array Jvm.ClassFile.FieldType.byte)), Jvm.Cond.code ({ cls := "java/lang/StringUTF16", name := "compress", desc := "([CI[BII)I" } : Jvm.MethodName) jdk_52_method_21_code (7 : Nat) (Option.some Jvm.ClassFile.FieldType.int), Jvm.Cond.code ({ cls := "java/lang/StringUTF16", name := "coderFromArrayLen", desc := "([BI)B" } : Jvm.MethodName) jdk_52_method_15_code (2 : Nat) (Option.some Jvm.ClassFile.FieldType.byte)]
set_option maxRecDepth 65536 in
theorem codes_eq : words1.filter isCode = codes1 := rfl
theorem w_codes : ∀ c ∈ words1.filter isCode, c.before args0 about1 = true := by
  rw [codes_eq]
  intro c hc
  simp only [codes1, List.mem_cons, List.not_mem_nil, or_false] at hc
  rcases hc with rfl | rfl | rfl | rfl | rfl | rfl | rfl | rfl | rfl | rfl | rfl | rfl | rfl | rfl | rfl
  · exact w_c0
  · exact w_c1
  · exact w_c2
  · exact w_c3
  · exact w_c4
  · exact w_c5
  · exact w_c6
  · exact w_c7
  · exact w_c8
  · exact w_c9
  · exact w_c10
  · exact w_c11
  · exact w_c12
  · exact w_c13
  · exact w_c14
set_option maxRecDepth 65536 in
theorem w_t1 : (words1.take 24).all (fun c => isCode c || c.before args0 about1) = true := by decide +kernel
set_option maxRecDepth 65536 in
theorem w_t2 : ((words1.drop 24).take 24).all (fun c => isCode c || c.before args0 about1) = true := by decide +kernel
set_option maxRecDepth 65536 in
theorem w_t3 : (((words1.drop 24).drop 24).take 24).all (fun c => isCode c || c.before args0 about1) = true := by decide +kernel
set_option maxRecDepth 65536 in
theorem w_t4 : (((words1.drop 24).drop 24).drop 24).all (fun c => isCode c || c.before args0 about1) = true := by decide +kernel
theorem w_tables : (allAtoms (Jvm.Cond.code x code maxLocals ret :: tables_1)).before args0 about1 = true := by
  rw [allAtoms_all]
  show words1.all (fun c => c.before args0 about1) = true
  refine all_split ?_ w_codes
  rw [← List.take_append_drop 24 words1, List.all_append, w_t1, ← List.take_append_drop 24 (words1.drop 24), List.all_append, w_t2, ← List.take_append_drop 24 ((words1.drop 24).drop 24), List.all_append, w_t3, w_t4]
  rfl
set_option maxRecDepth 65536 in
theorem w_rest : rest_1_c.before args0 about1 = true := by decide +kernel
set_option maxRecDepth 65536 in
theorem w_case : (Jvm.Cond.and given_1 narrow_1).before args0 about1 = true := by decide +kernel
set_option maxRecDepth 65536 in
theorem w_consts : constsHeld consts_1 about1 := Jvm.Lit.constsHeldB_iff.mp (by decide +kernel)
theorem w_applies : (headSpec (Jvm.Cond.code x code maxLocals ret :: tables_1) room_1).applies x e0.platform about1 = true :=
  (Spec.applies_iff w_frames).mpr ⟨w_running, w_runnable, w_alone, w_named, w_hears, w_ripe, w_room, w_tables⟩
theorem atStart : AtStart classFile x code maxLocals ret World_1 tables_1 room_1 Calls_1 rest_1 Pre_1 launch0 p0 e0 about1 theMethod args0 below0 :=
  ⟨lists_1, trivial, launch0.admits_env _ _ _, launch0.least_env, fairChoices_fair.cas, fairChoices_fair.clock, w_frames, w_args, w_heap, w_applies, ⟨w_consts, trivial⟩, w_rest, w_case⟩
end start1
theorem witness_1 : WitnessClaimed_1 := ⟨start1.p0, start1.e0, start1.about1, start1.theMethod, start1.args0, start1.below0, start1.atStart⟩
end Jvm.Pilot.@@N@@
