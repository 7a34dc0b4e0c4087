import JvmDerived
import JvmDerived.Pilot.@@N@@Statement
import JvmDerived.Pilot.@@N@@Code
set_option linter.unusedVariables false
set_option linter.unusedSimpArgs false
namespace Jvm.RoadKit
open Sem ClassFile Op Lib Jvm.Stand Jvm.Free Jvm.LawKit
section New
variable {p : Program} {l : Launch} {e : Env} {R : Room} {s : State} {m : MethodId} {args : Array Value} {below : List Frame} {meth : Method} {c : Code} {T : State} {locs : List Loc} {cells slots : Nat}
theorem retI (X : Stand p l e R s m args below meth c T locs cells slots) (hx : p.tables.exec = Jvm.exec) {pc : Nat} {Ls : Array Slot} {z : Int32} {rest : List Value} (hret : meth.sig.returnType = some .int) (hd : decode c.code pc = .ok (.ireturn, 1)) {fs : List Frame}
    (hl : ∀ (f : JFrame) (acts : List Action), f.method = m → f.locked = none → f.entered = [] → (doReturn e (T.setTop f) acts (some (.int z))).1 = T.setFrames fs) : Steps p.tables e below (T.setTop (mkF m pc Ls (.int z :: rest))) (T.setFrames fs) := by
  have hm' : T.vm.method? m = some meth := X.method'
  have hn : narrow .int (.int z) = .int z := rfl
  show Steps p.tables e below (T.setTop { method := m, pc := pc, locals := Ls, stack := _ :: rest, locked := none }) _
  jvm_step X.here [X.here.top, hx, hd, hm', hret, hn]
  first | (intro acts; rw [hl _ acts rfl rfl rfl]) | rw [hl _ _ rfl rfl rfl]
  exact Steps.refl _
theorem own_retA (X : Stand p l e R s m args below meth c T locs cells slots) (hx : p.tables.exec = Jvm.exec) {pc : Nat} {Ls : Array Slot} {v : Value} {t : FieldType} {rest : List Value} (hv : v.isRef = true) (hret : meth.sig.returnType = some t) (ht : t.isReference = true) (hd : decode c.code pc = .ok (.areturn, 1)) {fs : List Frame}
    (hl : ∀ (f : JFrame) (acts : List Action), f.method = m → f.locked = none → f.entered = [] → (doReturn e (T.setTop f) acts (some v)).1 = T.setFrames fs) : Steps p.tables e below (T.setTop (mkF m pc Ls (v :: rest))) (T.setFrames fs) := by
  have hm' : T.vm.method? m = some meth := X.method'
  show Steps p.tables e below (T.setTop { method := m, pc := pc, locals := Ls, stack := _ :: rest, locked := none }) _
  jvm_step X.here [X.here.top, hx, hd, hm', hret, hv, ht]
  first | (intro acts; rw [hl _ acts rfl rfl rfl]) | rw [hl _ _ rfl rfl rfl]
  exact Steps.refl _
theorem own_go {tb : Tables} {e : Env} {below : List Frame} {A B : State} {P : State → Outcome → Prop} (k : ∀ t, Steps tb e below B t → Steps tb e below A t) (h : ∃ s₂ o, Steps tb e below B s₂ ∧ P s₂ o) : ∃ s₂ o, Steps tb e below A s₂ ∧ P s₂ o := by
  obtain ⟨t, o, h1, h2⟩ := h
  exact ⟨t, o, k t h1, h2⟩
theorem own_abs {tb : Tables} {e : Env} {below : List Frame} {A : State} {P0 : State → Outcome → Prop} (h : ∀ P : State → Outcome → Prop, (∀ s₂ o, P0 s₂ o → P s₂ o) → ∃ s₂ o, Steps tb e below A s₂ ∧ P s₂ o) : ∃ s₂ o, Steps tb e below A s₂ ∧ P0 s₂ o := h P0 fun _ _ q => q
theorem own_oldsz {Z : State} {n0 : Nat} {h : Heap} (O : Old Z n0 h) : n0 ≤ h.size := O.1 ▸ O.2.1
theorem own_b255 (x : Int32) : ¬ (x &&& (255 : Int32)) < 0 ∧ ¬ (255 : Int32) < (x &&& (255 : Int32)) := by
  have h := c_and x 255 (by decide)
  have e : (255 : Int32).toInt = 255 := rfl
  have e0 : (0 : Int32).toInt = 0 := rfl
  rw [Int32.lt_iff_toInt_lt, Int32.lt_iff_toInt_lt]
  omega
theorem own_nc2 (x : Int32) : nar .char (x.toUInt32.toUInt16.toUInt32.toInt32) = x.toUInt32.toUInt16.toUInt32.toInt32 := by
  show (((x.toUInt32.toUInt16.toUInt32).toInt32).toUInt32).toUInt16.toUInt32.toInt32 = _
  rw [UInt32.toUInt32_toInt32, UInt16.toUInt16_toUInt32]
theorem own_nb2 (x : Int32) : x.toInt8.toInt32.toInt8.toInt32 = x.toInt8.toInt32 := by simp
/-- a String's bytes, of its chars -/
abbrev own_bs (cs : List Int32) : List Value := (cs.map fun c => c.toInt8.toInt32).map Value.int
theorem own_narR {v : Value} {t : FieldType} (hv : v.isRef = true) : narrow t v = v := by cases v <;> simp [Value.isRef] at hv <;> cases t <;> rfl
theorem own_fitR {v : Value} {s : String} (hv : v.isRef = true) : fits (.object s) v = true := by cases v <;> simp [Value.isRef] at hv <;> rfl
end New
end Jvm.RoadKit
/- laws to paste: Road.backV (cut by pick.py; bodies as the Statement names them) -/
namespace Jvm.Pilot.@@N@@
namespace StrChars
open Jvm Sem ClassFile Op Lib Jvm.Stand Jvm.Free.XT Jvm.Free.ALB Jvm.Free.JM Jvm.Free
open Jvm.Lib.Cold (StaticIs)
/-- a char array whose places are chars -/
def Ch (a : Addr) (A : Cell) (U : State) : Prop := Arr .char a A U ∧ Typed .char A
theorem Ch.mv {a : Addr} {A : Cell} {U U' : State} (h : Ch a A U) (hal : U.vm.Alike U'.vm) (hh : U'.heap = U.heap) : Ch a A U' := ⟨h.1.mv hal hh, h.2⟩
theorem Ch.keep {a : Addr} {A : Cell} {U U' : State} (h : Ch a A U) (hal : U.vm.Alike U'.vm) (hk : U'.heap[a]? = some A) : Ch a A U' := ⟨h.1.keep hal hk, h.2⟩
/-- what place i of a char[]'s cell holds -/
def cv (A : Cell) (i : Nat) : Int32 := match A.slots[i]? with | some (.int x) => x | _ => 0
theorem Ch.get {a : Addr} {A : Cell} {U : State} (h : Ch a A U) {i : Nat} (hi : i < A.slots.size) : A.slots[i]? = some (.int (cv A i)) := by
  have e := Array.getElem?_eq_getElem hi
  have f := h.2 i _ e
  unfold cv; rw [e]
  generalize A.slots[i] = v at f
  cases v <;> simp [fits] at f ⊢
/-- the byte that i2b leaves of a char -/
def lo8 (x : Int32) : Int32 := x.toInt8.toInt32
theorem fits_lo8 (y : Int32) : fits .byte (.int (lo8 y)) = true := by
  have h1 := y.toInt8.le_toInt
  have h2 := y.toInt8.toInt_lt
  simp only [lo8, fits, Bool.and_eq_true, decide_eq_true_eq, Int32.le_iff_toInt_le, Int8.toInt_toInt32, show (-128 : Int32).toInt = -128 from by decide, show (127 : Int32).toInt = 127 from by decide]
  omega
/-- A' is A but that each place j of lo .. hi - 1 holds f j -/
def Laid (A A' : Cell) (lo hi : Nat) (f : Nat → Value) : Prop := A'.cls = A.cls ∧ A'.vm = A.vm ∧ A'.slots.size = A.slots.size ∧ ∀ i, A'.slots[i]? = if lo ≤ i ∧ i < hi then some (f i) else A.slots[i]?
theorem Laid.zero (A : Cell) (lo : Nat) (f : Nat → Value) : Laid A A lo (lo + 0) f := ⟨rfl, rfl, rfl, fun i => by rw [if_neg (by omega)]⟩
theorem Laid.step {A Ak : Cell} {lo k : Nat} {f : Nat → Value} {v : Value} (h : Laid A Ak lo k f) (hlo : lo ≤ k) (hk : k < Ak.slots.size) (hv : v = f k) : Laid A (Ak.setSlot k v) lo (k + 1) f := by
  refine ⟨h.1, h.2.1, by simpa [Cell.setSlot] using h.2.2.1, fun i => ?_⟩
  by_cases e : k = i
  · subst e; rw [Cell.slots_setSlot_self v hk, if_pos (by omega), hv]
  · rw [Cell.slots_setSlot_ne v e, h.2.2.2 i]
    by_cases q : lo ≤ i ∧ i < k
    · rw [if_pos q, if_pos (by omega)]
    · rw [if_neg q, if_neg (by omega)]
def U16 : String := "java/lang/StringUTF16"
namespace Cmp5
def yN : MethodName := ⟨"java/lang/StringUTF16", "compress", "([CI[BII)I"⟩
abbrev yB : ByteArray := jdk_52_method_21_code
theorem d0 : decode yB 0 = .ok (.iconst 0, 1) := by decide +kernel
theorem d1 : decode yB 1 = .ok (.istore 5, 2) := by decide +kernel
theorem d3 : decode yB 3 = .ok (.iload 5, 2) := by decide +kernel
theorem d5 : decode yB 5 = .ok (.iload 4, 2) := by decide +kernel
theorem d7 : decode yB 7 = .ok (.if_icmp (.ge) 37, 3) := by decide +kernel
theorem d10 : decode yB 10 = .ok (.aload_n 0, 1) := by decide +kernel
theorem d11 : decode yB 11 = .ok (.iload_n 1, 1) := by decide +kernel
theorem d12 : decode yB 12 = .ok (.caload, 1) := by decide +kernel
theorem d13 : decode yB 13 = .ok (.istore 6, 2) := by decide +kernel
theorem d15 : decode yB 15 = .ok (.iload 6, 2) := by decide +kernel
theorem d17 : decode yB 17 = .ok (.sipush 255, 3) := by decide +kernel
theorem d20 : decode yB 20 = .ok (.if_icmp (.le) 6, 3) := by decide +kernel
theorem d26 : decode yB 26 = .ok (.aload_n 2, 1) := by decide +kernel
theorem d27 : decode yB 27 = .ok (.iload_n 3, 1) := by decide +kernel
theorem d28 : decode yB 28 = .ok (.iload 6, 2) := by decide +kernel
theorem d30 : decode yB 30 = .ok (.i2b, 1) := by decide +kernel
theorem d31 : decode yB 31 = .ok (.bastore, 1) := by decide +kernel
theorem d32 : decode yB 32 = .ok (.iinc 1 1, 3) := by decide +kernel
theorem d35 : decode yB 35 = .ok (.iinc 3 1, 3) := by decide +kernel
theorem d38 : decode yB 38 = .ok (.iinc 5 1, 3) := by decide +kernel
theorem d41 : decode yB 41 = .ok (.goto (-38), 3) := by decide +kernel
theorem d44 : decode yB 44 = .ok (.iload 4, 2) := by decide +kernel
theorem d46 : decode yB 46 = .ok (.ireturn, 1) := by decide +kernel
def site : List Cond := []
def tab : Cond := tabOf yN yB 7 (some .int) site
def P (b : Addr) (A : Cell) (d : Addr) (B : Cell) (o q len : Nat) (args : Array Value) (s : State) : Prop := args = #[.ref b, .int (Int32.ofNat o), .ref d, .int (Int32.ofNat q), .int (Int32.ofNat len)] ∧ Ch b A s ∧ Arr .byte d B s ∧ b ≠ d ∧ o + len ≤ A.slots.size ∧ q + len ≤ B.slots.size ∧ ∀ i, i < len → ¬ 255 < cv A (o + i)
def E (b : Addr) (A : Cell) (d : Addr) (B : Cell) (o q len : Nat) (r : Option Value) (s u : State) : Prop := r = some (.int (Int32.ofNat len)) ∧ ∃ B', Put d B' s u ∧ Laid B B' q (q + len) (fun j => Value.int (lo8 (cv A (o + (j - q)))))
/-- no char of the range above 255: len; the places written hold each char's low byte -/
theorem law (l : Launch) (b : Addr) (A : Cell) (d : Addr) (B : Cell) (o q len : Nat) : Law l yN 5 5 0 0 yB 7 (some .int) site (P b A d B o q len) (E b A d B o q len) (copyLocs d q len) 0 0 := by
  refine Law.of_walk (plainFor_of_name (by decide +kernel)) (by decide +kernel) (by decide +kernel) (by decide) (fun _ _ h => by rw [h.1]; rfl) (fun _ U U' hal hh h => ⟨h.1, h.2.1.mv hal hh, h.2.2.1.mv hal hh, h.2.2.2⟩) (fun r U U' V V' h1 hal h2 h => ⟨h.1, h.2.elim fun B' q => ⟨B', q.1.mv h1 h2, q.2⟩⟩) ?_
  intro p e s m args below meth c s₁ X0 hexec hbytes hml hret hlk hnm hown hh0 W hP
  obtain ⟨rfl, hA, hB, hne, l1, l2, hp⟩ := hP
  have c1 : Steps p.tables e below (s₁.setTop (entryFrame m #[.ref b, .int (Int32.ofNat o), .ref d, .int (Int32.ofNat q), .int (Int32.ofNat len)] 7)) (s₁.setTop (mkF m 0 #[.val (.ref b), .val (.int (Int32.ofNat o)), .val (.ref d), .val (.int (Int32.ofNat q)), .val (.int (Int32.ofNat len)), .unset, .unset] [])) := entry rfl
  have hA0 := hA.1.mv X0.warmed.alike hh0
  have hB0 := hB.mv X0.warmed.alike hh0
  have a31 := hA.1.2.2.2
  have c2 : Steps p.tables e below (s₁.setTop (entryFrame m #[.ref b, .int (Int32.ofNat o), .ref d, .int (Int32.ofNat q), .int (Int32.ofNat len)] 7)) (s₁.setTop (mkF m 3 #[.val (.ref b), .val (.int (Int32.ofNat o)), .val (.ref d), .val (.int (Int32.ofNat q)), .val (.int (Int32.ofNat len)), .val (.int 0), .unset] [])) := c1.trans (by
    refine iconstV X0.here hexec rfl 0 (hb hbytes d0) (by decide) ?_
    refine XS.istore X0.here hexec rfl (hb hbytes d1) rfl rfl ?_
    exact Steps.refl _)
  have loop : ∀ (r i : Nat), i + r = len → ∀ (z : Slot), (z = .unset ∨ ∃ w, z = .val w ∧ w.category = 1) → ∀ (Tl : State) (Bk : Cell), Stand p l e { frames := 0, locals := 0, cells := 0, slots := 0 } s m #[.ref b, .int (Int32.ofNat o), .ref d, .int (Int32.ofNat q), .int (Int32.ofNat len)] below meth c Tl ([] ++ copyLocs d q i) 0 0 → Put d Bk s₁ Tl → Laid B Bk q (q + i) (fun j => Value.int (lo8 (cv A (o + (j - q))))) →
      Steps p.tables e below (s₁.setTop (entryFrame m #[.ref b, .int (Int32.ofNat o), .ref d, .int (Int32.ofNat q), .int (Int32.ofNat len)] 7)) (Tl.setTop (mkF m 3 #[.val (.ref b), .val (.int (Int32.ofNat (o + i))), .val (.ref d), .val (.int (Int32.ofNat (q + i))), .val (.int (Int32.ofNat len)), .val (.int (Int32.ofNat i)), z] [])) → ∃ (T' : State) (B' : Cell) (z' : Slot), Stand p l e { frames := 0, locals := 0, cells := 0, slots := 0 } s m #[.ref b, .int (Int32.ofNat o), .ref d, .int (Int32.ofNat q), .int (Int32.ofNat len)] below meth c T' ([] ++ copyLocs d q len) 0 0 ∧ Put d B' s₁ T' ∧ Laid B B' q (q + len) (fun j => Value.int (lo8 (cv A (o + (j - q))))) ∧
      Steps p.tables e below (s₁.setTop (entryFrame m #[.ref b, .int (Int32.ofNat o), .ref d, .int (Int32.ofNat q), .int (Int32.ofNat len)] 7)) (T'.setTop (mkF m 3 #[.val (.ref b), .val (.int (Int32.ofNat (o + len))), .val (.ref d), .val (.int (Int32.ofNat (q + len))), .val (.int (Int32.ofNat len)), .val (.int (Int32.ofNat len)), z'] [])) := by
    intro r
    induction r with
    | zero =>
      intro i hi z hz Tl Bk Xl pl fl cl
      have hil : i = len := by omega
      rw [hil] at Xl fl cl
      exact ⟨Tl, Bk, z, Xl, pl, fl, cl⟩
    | succ r ih =>
      intro i hi z hz Tl Bk Xl pl fl cl
      have all := X0.warmed.alike.symm.trans Xl.warmed.alike
      have hAl := hA0.keep all (pl.other hne hA0.1)
      have hBk := hB0.like all pl.1 fl.1 fl.2.1 fl.2.2.1
      have hlt : q + i < Bk.slots.size := by rw [fl.2.2.1]; omega
      have c3 : Steps p.tables e below (s₁.setTop (entryFrame m #[.ref b, .int (Int32.ofNat o), .ref d, .int (Int32.ofNat q), .int (Int32.ofNat len)] 7)) (Tl.setTop (mkF m 12 #[.val (.ref b), .val (.int (Int32.ofNat (o + i))), .val (.ref d), .val (.int (Int32.ofNat (q + i))), .val (.int (Int32.ofNat len)), .val (.int (Int32.ofNat i)), z] [.int (Int32.ofNat (o + i)), .ref b])) := cl.trans (by
        refine XS.iload Xl.here hexec rfl (hb hbytes d3) rfl ?_
        refine XS.iload Xl.here hexec rfl (hb hbytes d5) rfl ?_
        refine XS.icmpNo Xl.here hexec rfl (hb hbytes d7) rfl (ii_ge_f (lt32 (by omega) (by omega))) ?_
        refine XS.aloadN Xl.here hexec rfl (hb hbytes d10) rfl rfl ?_
        refine XS.iloadN Xl.here hexec rfl (hb hbytes d11) rfl ?_
        exact Steps.refl _)
      have c4 : Steps p.tables e below (s₁.setTop (entryFrame m #[.ref b, .int (Int32.ofNat o), .ref d, .int (Int32.ofNat q), .int (Int32.ofNat len)] 7)) (Tl.setTop (mkF m 13 #[.val (.ref b), .val (.int (Int32.ofNat (o + i))), .val (.ref d), .val (.int (Int32.ofNat (q + i))), .val (.int (Int32.ofNat len)), .val (.int (Int32.ofNat i)), z] [.int (cv A (o + i))])) := c3.trans (by
        refine Xl.aget hexec hAl rfl (hA.get (i := o + i) (by omega)) rfl rfl (hb hbytes d12) ?_
        exact Steps.refl _)
      have c5 : Steps p.tables e below (s₁.setTop (entryFrame m #[.ref b, .int (Int32.ofNat o), .ref d, .int (Int32.ofNat q), .int (Int32.ofNat len)] 7)) (Tl.setTop (mkF m 15 #[.val (.ref b), .val (.int (Int32.ofNat (o + i))), .val (.ref d), .val (.int (Int32.ofNat (q + i))), .val (.int (Int32.ofNat len)), .val (.int (Int32.ofNat i)), .val (.int (cv A (o + i)))] [])) := c4.trans (by
        refine XS.istoreS Xl.here hexec rfl (hb hbytes d13) rfl rfl hz ?_
        exact Steps.refl _)
      have c6 : Steps p.tables e below (s₁.setTop (entryFrame m #[.ref b, .int (Int32.ofNat o), .ref d, .int (Int32.ofNat q), .int (Int32.ofNat len)] 7)) (Tl.setTop (mkF m 31 #[.val (.ref b), .val (.int (Int32.ofNat (o + i))), .val (.ref d), .val (.int (Int32.ofNat (q + i))), .val (.int (Int32.ofNat len)), .val (.int (Int32.ofNat i)), .val (.int (cv A (o + i)))] [.int (lo8 (cv A (o + i))), .int (Int32.ofNat (q + i)), .ref d])) := c5.trans (by
        refine XS.iload Xl.here hexec rfl (hb hbytes d15) rfl ?_
        refine sipushV Xl.here hexec rfl 255 (hb hbytes d17) (by decide) ?_
        refine XS.icmpYes Xl.here hexec rfl (pc0 := 20) rfl (hb hbytes d20) rfl (ii_le_t (hp i (by omega))) (by decide) rfl ?_
        refine XS.aloadN Xl.here hexec rfl (hb hbytes d26) rfl rfl ?_
        refine XS.iloadN Xl.here hexec rfl (hb hbytes d27) rfl ?_
        refine XS.iload Xl.here hexec rfl (hb hbytes d28) rfl ?_
        refine i2b Xl.here hexec rfl (hb hbytes d30) rfl ?_
        exact Steps.refl _)
      obtain ⟨T7, X7, p7, st7⟩ := Xl.aput hexec hBk rfl hlt rfl (fits_lo8 (cv A (o + i))) (g := (mkF m 31 #[.val (.ref b), .val (.int (Int32.ofNat (o + i))), .val (.ref d), .val (.int (Int32.ofNat (q + i))), .val (.int (Int32.ofNat len)), .val (.int (Int32.ofNat i)), .val (.int (cv A (o + i)))] [.int (lo8 (cv A (o + i))), .int (Int32.ofNat (q + i)), .ref d])) rfl (rest := []) rfl (hb hbytes d31)
      have c8 : Steps p.tables e below (s₁.setTop (entryFrame m #[.ref b, .int (Int32.ofNat o), .ref d, .int (Int32.ofNat q), .int (Int32.ofNat len)] 7)) (T7.setTop (mkF m 32 #[.val (.ref b), .val (.int (Int32.ofNat (o + i))), .val (.ref d), .val (.int (Int32.ofNat (q + i))), .val (.int (Int32.ofNat len)), .val (.int (Int32.ofNat i)), .val (.int (cv A (o + i)))] [])) := c6.trans (st7 _ (Steps.refl _))
      have c9 : Steps p.tables e below (s₁.setTop (entryFrame m #[.ref b, .int (Int32.ofNat o), .ref d, .int (Int32.ofNat q), .int (Int32.ofNat len)] 7)) (T7.setTop (mkF m 3 #[.val (.ref b), .val (.int (Int32.ofNat (o + i) + 1)), .val (.ref d), .val (.int (Int32.ofNat (q + i) + 1)), .val (.int (Int32.ofNat len)), .val (.int (Int32.ofNat i + 1)), .val (.int (cv A (o + i)))] [])) := c8.trans (by
        refine iincV X7.here hexec rfl 1 (hb hbytes d32) (by decide) rfl rfl ?_
        refine iincV X7.here hexec rfl 1 (hb hbytes d35) (by decide) rfl rfl ?_
        refine iincV X7.here hexec rfl 1 (hb hbytes d38) (by decide) rfl rfl ?_
        refine XS.goto X7.here hexec rfl (pc0 := 41) rfl (hb hbytes d41) (by decide) rfl ?_
        exact Steps.refl _)
      have c10 : Steps p.tables e below (s₁.setTop (entryFrame m #[.ref b, .int (Int32.ofNat o), .ref d, .int (Int32.ofNat q), .int (Int32.ofNat len)] 7)) (T7.setTop (mkF m 3 #[.val (.ref b), .val (.int (Int32.ofNat (o + (i + 1)))), .val (.ref d), .val (.int (Int32.ofNat (q + (i + 1)))), .val (.int (Int32.ofNat len)), .val (.int (Int32.ofNat (i + 1))), .val (.int (cv A (o + i)))] [])) := by
        have := c9
        rw [succ32, succ32, succ32] at this
        exact this
      exact ih (i + 1) (by omega) _ (Or.inr ⟨_, rfl, rfl⟩) T7 _ (by rw [copyLocs_step, ← List.append_assoc]; exact X7) (pl.trans p7) (fl.step (by omega) hlt (by simp)) c10
  obtain ⟨T9, B9, z9, X9, p9, f9, g9⟩ := loop len 0 (by omega) .unset (Or.inl rfl) s₁ B (by simpa [copyLocs] using X0) ⟨hB0.1, fun _ _ => rfl, rfl⟩ (Laid.zero _ _ _) c2
  have c11 : Steps p.tables e below (s₁.setTop (entryFrame m #[.ref b, .int (Int32.ofNat o), .ref d, .int (Int32.ofNat q), .int (Int32.ofNat len)] 7)) (T9.setTop (mkF m 46 #[.val (.ref b), .val (.int (Int32.ofNat (o + len))), .val (.ref d), .val (.int (Int32.ofNat (q + len))), .val (.int (Int32.ofNat len)), .val (.int (Int32.ofNat len)), z9] [.int (Int32.ofNat len)])) := g9.trans (by
    refine XS.iload X9.here hexec rfl (hb hbytes d3) rfl ?_
    refine XS.iload X9.here hexec rfl (hb hbytes d5) rfl ?_
    refine XS.icmpYes X9.here hexec rfl (pc0 := 7) rfl (hb hbytes d7) rfl (ii_ge_t (nlt32 (by omega) (Nat.le_refl _))) (by decide) rfl ?_
    refine XS.iload X9.here hexec rfl (hb hbytes d44) rfl ?_
    exact Steps.refl _)
  exact ⟨T9, some (.int (Int32.ofNat len)), _, _, _, X9, by simp, rfl, rfl, (fun h => by cases h), ⟨rfl, B9, p9.from hh0, f9⟩, fun fs hl => c11.trans (X9.ireturnOut hexec hret rfl (Or.inl rfl) (hb hbytes d46) hl)⟩
end Cmp5
namespace Cmp3
def yN : MethodName := ⟨"java/lang/StringUTF16", "compress", "([CII)[B"⟩
abbrev yB : ByteArray := jdk_52_method_16_code
theorem d0 : decode yB 0 = .ok (.iload_n 2, 1) := by decide +kernel
theorem d1 : decode yB 1 = .ok (.newarray .byte, 2) := by decide +kernel
theorem d3 : decode yB 3 = .ok (.astore_n 3, 1) := by decide +kernel
theorem d4 : decode yB 4 = .ok (.aload_n 0, 1) := by decide +kernel
theorem d5 : decode yB 5 = .ok (.iload_n 1, 1) := by decide +kernel
theorem d6 : decode yB 6 = .ok (.aload_n 3, 1) := by decide +kernel
theorem d7 : decode yB 7 = .ok (.iconst 0, 1) := by decide +kernel
theorem d8 : decode yB 8 = .ok (.iload_n 2, 1) := by decide +kernel
theorem d9 : decode yB 9 = .ok (.invokestatic 115, 3) := by decide +kernel
theorem d12 : decode yB 12 = .ok (.istore 4, 2) := by decide +kernel
theorem d14 : decode yB 14 = .ok (.iload 4, 2) := by decide +kernel
theorem d16 : decode yB 16 = .ok (.iload_n 2, 1) := by decide +kernel
theorem d17 : decode yB 17 = .ok (.if_icmp (.eq) 40, 3) := by decide +kernel
theorem d57 : decode yB 57 = .ok (.aload_n 3, 1) := by decide +kernel
theorem d58 : decode yB 58 = .ok (.areturn, 1) := by decide +kernel
def site : List Cond := [.arrayClass .byte, Cmp5.tab] ++ staticW U16 115 Cmp5.yN
def tab : Cond := tabOf yN yB 6 (some (.array .byte)) site
def P (b : Addr) (A : Cell) (o len : Nat) (args : Array Value) (s : State) : Prop := args = #[.ref b, .int (Int32.ofNat o), .int (Int32.ofNat len)] ∧ Ch b A s ∧ o + len ≤ A.slots.size ∧ len ≤ 536870912 ∧ ∀ i, i < len → ¬ 255 < cv A (o + i)
def E (b : Addr) (A : Cell) (o len : Nat) (r : Option Value) (s u : State) : Prop := NewArr .byte "[B" len (fun j => .int (lo8 (cv A (o + j)))) r s u ∧ u.heap.size = s.heap.size + 1
/-- no char of the range above 255: a new byte[] of their low bytes -/
theorem law (l : Launch) (b : Addr) (A : Cell) (o len : Nat) : Law l yN 3 3 1 18 yB 6 (some (.array .byte)) site (P b A o len) (E b A o len) [] 1 len := by
  refine Law.of_walk (plainFor_of_name (by decide +kernel)) (by decide +kernel) (by decide +kernel) (by decide) (fun _ _ h => by rw [h.1]; rfl) (fun _ U U' hal hh h => ⟨h.1, h.2.1.mv hal hh, h.2.2⟩) (fun r U U' V V' h1 hal h2 h => ⟨NewArr.mv r U U' V V' h1 hal h2 h.1, by rw [h1, h2]; exact h.2⟩) ?_
  intro p e s m args below meth c s₁ X0 hexec hbytes hml hret hlk hnm hown hh0 W hP
  obtain ⟨rfl, hA, l1, l2, hp⟩ := hP
  have a31 := hA.1.2.2.2
  have c1 : Steps p.tables e below (s₁.setTop (entryFrame m #[.ref b, .int (Int32.ofNat o), .int (Int32.ofNat len)] 6)) (s₁.setTop (mkF m 0 #[.val (.ref b), .val (.int (Int32.ofNat o)), .val (.int (Int32.ofNat len)), .unset, .unset, .unset] [])) := entry rfl
  have c2 : Steps p.tables e below (s₁.setTop (entryFrame m #[.ref b, .int (Int32.ofNat o), .int (Int32.ofNat len)] 6)) (s₁.setTop (mkF m 1 #[.val (.ref b), .val (.int (Int32.ofNat o)), .val (.int (Int32.ofNat len)), .unset, .unset, .unset] [.int (Int32.ofNat len)])) := c1.trans (by
    refine XS.iloadN X0.here hexec rfl (hb hbytes d0) rfl ?_
    exact Steps.refl _)
  obtain ⟨T3, B3, X3, ba3, bs3, bv3, bh3, bf3, st3⟩ := X0.anew hexec (atype := .byte) (wk W (.arrayClass .byte)) rfl (by show len * 1 ≤ _; omega) (by omega) (g := (mkF m 1 #[.val (.ref b), .val (.int (Int32.ofNat o)), .val (.int (Int32.ofNat len)), .unset, .unset, .unset] [.int (Int32.ofNat len)])) rfl (hb hbytes d1) (rest := []) rfl (Nat.le_refl _) (by show 0 + len ≤ len; omega)
  rw [hh0] at ba3 st3
  have kp3 : XT.Kept s T3 := (XT.Kept.of_eq hh0).push bh3
  have hA3 := hA.keep X3.warmed.alike (kp3 _ _ hA.1.1)
  have hne : b ≠ s.heap.size := hA.1.ne
  have c4 : Steps p.tables e below (s₁.setTop (entryFrame m #[.ref b, .int (Int32.ofNat o), .int (Int32.ofNat len)] 6)) (T3.setTop (mkF m 3 #[.val (.ref b), .val (.int (Int32.ofNat o)), .val (.int (Int32.ofNat len)), .unset, .unset, .unset] [.ref s.heap.size])) := c2.trans (st3 _ (Steps.refl _))
  have c5 : Steps p.tables e below (s₁.setTop (entryFrame m #[.ref b, .int (Int32.ofNat o), .int (Int32.ofNat len)] 6)) (T3.setTop (mkF m 9 #[.val (.ref b), .val (.int (Int32.ofNat o)), .val (.int (Int32.ofNat len)), .val (.ref s.heap.size), .unset, .unset] [.int (Int32.ofNat len), .int 0, .ref s.heap.size, .int (Int32.ofNat o), .ref b])) := c4.trans (by
    refine XS.astoreN X3.here hexec rfl (hb hbytes d3) rfl rfl rfl ?_
    refine XS.aloadN X3.here hexec rfl (hb hbytes d4) rfl rfl ?_
    refine XS.iloadN X3.here hexec rfl (hb hbytes d5) rfl ?_
    refine XS.aloadN X3.here hexec rfl (hb hbytes d6) rfl rfl ?_
    refine iconstV X3.here hexec rfl 0 (hb hbytes d7) (by decide) ?_
    refine XS.iloadN X3.here hexec rfl (hb hbytes d8) rfl ?_
    exact Steps.refl _)
  obtain ⟨v6, T6, X6, E6, g6⟩ := X3.callS hexec (Cmp5.law l b A s.heap.size B3 o 0 len) hown (wks W (staticW U16 115 Cmp5.yN)) (wk W Cmp5.tab) (W := 0) (Nat.le_of_ble_eq_true rfl) (Nat.le_of_ble_eq_true rfl) (Nat.le_refl _) (by show 0 + len + 0 ≤ len; omega) (g := (mkF m 9 #[.val (.ref b), .val (.int (Int32.ofNat o)), .val (.int (Int32.ofNat len)), .val (.ref s.heap.size), .unset, .unset] [.int (Int32.ofNat len), .int (Int32.ofNat 0), .ref s.heap.size, .int (Int32.ofNat o), .ref b])) rfl (by rw [hml]; rfl) c5 (argsL := [.ref b, .int (Int32.ofNat o), .ref s.heap.size, .int (Int32.ofNat 0), .int (Int32.ofNat len)]) (rest := []) rfl rfl (by show 2 * 0 + 0 ≤ _; decide) (hb hbytes d9) (⟨rfl, hA3, ba3, hne, l1, by rw [bs3]; simp, hp⟩)
  obtain ⟨rfl, B6, p6, f6⟩ := E6
  have c7 : Steps p.tables e below (s₁.setTop (entryFrame m #[.ref b, .int (Int32.ofNat o), .int (Int32.ofNat len)] 6)) (T6.setTop (mkF m 12 #[.val (.ref b), .val (.int (Int32.ofNat o)), .val (.int (Int32.ofNat len)), .val (.ref s.heap.size), .unset, .unset] [.int (Int32.ofNat len)])) := g6
  have c8 : Steps p.tables e below (s₁.setTop (entryFrame m #[.ref b, .int (Int32.ofNat o), .int (Int32.ofNat len)] 6)) (T6.setTop (mkF m 58 #[.val (.ref b), .val (.int (Int32.ofNat o)), .val (.int (Int32.ofNat len)), .val (.ref s.heap.size), .val (.int (Int32.ofNat len)), .unset] [.ref s.heap.size])) := c7.trans (by
    refine XS.istore X6.here hexec rfl (hb hbytes d12) rfl rfl ?_
    refine XS.iload X6.here hexec rfl (hb hbytes d14) rfl ?_
    refine XS.iloadN X6.here hexec rfl (hb hbytes d16) rfl ?_
    refine XS.icmpYes X6.here hexec rfl (pc0 := 17) rfl (hb hbytes d17) rfl (ii_eq_t rfl) (by decide) rfl ?_
    refine XS.aloadN X6.here hexec rfl (hb hbytes d57) rfl rfl ?_
    exact Steps.refl _)
  have X8 := X6.wide (L' := []) (cells' := 1) (slots' := len) (fun x hx hlt => by
    simp only [List.nil_append, copyLocs, List.mem_map, List.mem_range] at hx
    obtain ⟨i, -, rfl⟩ := hx
    exact absurd hlt (Nat.lt_irrefl _)) (Nat.le_refl _) (by omega)
  exact ⟨T6, some (.ref s.heap.size), _, _, _, X8, rfl, rfl, rfl, (fun h => by cases h), ⟨⟨rfl, B6, ba3.like (X3.warmed.alike.symm.trans X6.warmed.alike) p6.1 f6.1 f6.2.1 f6.2.2.1, f6.2.1.trans bv3, by rw [X6.warmed.alike.findClass, f6.1]; exact bf3, by rw [f6.2.2.1, bs3]; simp, fun j hj => by rw [f6.2.2.2 j, if_pos (by omega)]; rfl, kp3.put p6 (Nat.le_refl _)⟩, by rw [p6.2.2, bh3, hh0]; simp⟩, fun fs hl => c8.trans (X8.areturnOut hexec rfl hret rfl (hb hbytes d58) hl)⟩
end Cmp3
namespace CodL
def yN : MethodName := ⟨"java/lang/StringUTF16", "coderFromArrayLen", "([BI)B"⟩
abbrev yB : ByteArray := jdk_52_method_15_code
theorem d0 : decode yB 0 = .ok (.iload_n 1, 1) := by decide +kernel
theorem d1 : decode yB 1 = .ok (.aload_n 0, 1) := by decide +kernel
theorem d2 : decode yB 2 = .ok (.arraylength, 1) := by decide +kernel
theorem d3 : decode yB 3 = .ok (.isub, 1) := by decide +kernel
theorem d4 : decode yB 4 = .ok (.bipush 31, 2) := by decide +kernel
theorem d6 : decode yB 6 = .ok (.iushr, 1) := by decide +kernel
theorem d7 : decode yB 7 = .ok (.i2b, 1) := by decide +kernel
theorem d8 : decode yB 8 = .ok (.ireturn, 1) := by decide +kernel
def site : List Cond := []
def tab : Cond := tabOf yN yB 2 (some .byte) site
def P (d : Addr) (B : Cell) (args : Array Value) (s : State) : Prop := args = #[.ref d, .int (Int32.ofNat B.slots.size)] ∧ Arr .byte d B s
def E (r : Option Value) (s u : State) : Prop := XT.PureE (some (.int 0)) r s u
/-- an array as long as the number of chars: LATIN1 -/
theorem law (l : Launch) (d : Addr) (B : Cell) : Law l yN 2 2 0 0 yB 2 (some .byte) site (P d B) E [] 0 0 := by
  refine Law.of_walk (plainFor_of_name (by decide +kernel)) (by decide +kernel) (by decide +kernel) (by decide) (fun _ _ h => by rw [h.1]; rfl) (fun _ U U' hal hh h => ⟨h.1, h.2.mv hal hh⟩) (fun r U U' V V' h1 hal h2 h => XT.PureE.mv r U U' V V' h1 hal h2 h) ?_
  intro p e s m args below meth c s₁ X0 hexec hbytes hml hret hlk hnm hown hh0 W hP
  obtain ⟨rfl, hB⟩ := hP
  have hB0 := hB.mv X0.warmed.alike hh0
  have c1 : Steps p.tables e below (s₁.setTop (entryFrame m #[.ref d, .int (Int32.ofNat B.slots.size)] 2)) (s₁.setTop (mkF m 0 #[.val (.ref d), .val (.int (Int32.ofNat B.slots.size))] [])) := entry rfl
  have c2 : Steps p.tables e below (s₁.setTop (entryFrame m #[.ref d, .int (Int32.ofNat B.slots.size)] 2)) (s₁.setTop (mkF m 2 #[.val (.ref d), .val (.int (Int32.ofNat B.slots.size))] [.ref d, .int (Int32.ofNat B.slots.size)])) := c1.trans (by
    refine XS.iloadN X0.here hexec rfl (hb hbytes d0) rfl ?_
    refine XS.aloadN X0.here hexec rfl (hb hbytes d1) rfl rfl ?_
    exact Steps.refl _)
  have c3 : Steps p.tables e below (s₁.setTop (entryFrame m #[.ref d, .int (Int32.ofNat B.slots.size)] 2)) (s₁.setTop (mkF m 8 #[.val (.ref d), .val (.int (Int32.ofNat B.slots.size))] [.int (lo8 (ushr (Int32.ofNat B.slots.size - Int32.ofNat B.slots.size) 31))])) := c2.trans (by
    refine X0.alen hexec hB0 rfl rfl (hb hbytes d2) ?_
    refine XS.isub X0.here hexec rfl (hb hbytes d3) rfl ?_
    refine bipushV X0.here hexec rfl 31 (hb hbytes d4) (by decide) ?_
    refine iushr X0.here hexec rfl (hb hbytes d6) rfl ?_
    refine i2b X0.here hexec rfl (hb hbytes d7) rfl ?_
    exact Steps.refl _)
  have e0 : lo8 (ushr (Int32.ofNat B.slots.size - Int32.ofNat B.slots.size) 31) = 0 := by rw [Int32.sub_self]; decide
  rw [e0] at c3
  exact ⟨s₁, some (.int 0), _, _, _, X0, rfl, rfl, rfl, (fun h => by cases h), ⟨rfl, hh0⟩, fun fs hl => c3.trans (X0.ireturnOut hexec hret rfl (Or.inr (Or.inr (Or.inl rfl))) (hb hbytes d8) hl)⟩
end CodL
/-- the String at a is Latin-1 over a new byte[] (the heap's one new cell): the low bytes of the len chars of A from o on; every cell but a is kept -/
def Got (a : Addr) (D : Cell) (fV fC : Field) (A : Cell) (o len : Nat) (r : Option Value) (s u : State) : Prop := r = none ∧ ∃ D' V : Cell, Blank "java/lang/String" a D' u ∧ Same D D' [fV.slot, fC.slot] ∧ D'.slots[fV.slot]? = some (.ref s.heap.size) ∧ D'.slots[fC.slot]? = some (.int 0) ∧ Arr .byte s.heap.size V u ∧ V.vm = .none ∧ u.vm.findClass "[B" = some V.cls ∧ V.slots.size = len ∧ (∀ j, j < len → V.slots[j]? = some (.int (lo8 (cv A (o + j))))) ∧ (∀ (y : Addr) (c : Cell), y ≠ a → s.heap[y]? = some c → u.heap[y]? = some c) ∧ u.heap.size = s.heap.size + 1
theorem Got.mv {a : Addr} {D A : Cell} {fV fC : Field} {o len : Nat} : ∀ r (U U' V V' : State), U'.heap = U.heap → V.vm.Alike V'.vm → V'.heap = V.heap → Got a D fV fC A o len r U V → Got a D fV fC A o len r U' V' :=
  fun r U U' V V' h1 hal h2 ⟨e0, D', X, a1, a2, a3, a4, a5, a6, a7, a8, a9, a10, a11⟩ => ⟨e0, D', X, a1.mv hal h2, a2, by rw [h1]; exact a3, a4, by rw [h1]; exact a5.mv hal h2, a6, by rw [hal.findClass]; exact a7, a8, a9, by rw [h1, h2]; exact a10, by rw [h1, h2]; exact a11⟩
namespace New4
def yN : MethodName := ⟨"java/lang/String", "<init>", "([CIILjava/lang/Void;)V"⟩
abbrev yB : ByteArray := jdk_42_method_149_code
theorem d0 : decode yB 0 = .ok (.aload_n 0, 1) := by decide +kernel
theorem d1 : decode yB 1 = .ok (.invokespecial 1, 3) := by decide +kernel
theorem d4 : decode yB 4 = .ok (.iload_n 3, 1) := by decide +kernel
theorem d5 : decode yB 5 = .ok (.ifCond (.ne) 22, 3) := by decide +kernel
theorem d27 : decode yB 27 = .ok (.getstatic 38, 3) := by decide +kernel
theorem d30 : decode yB 30 = .ok (.ifCond (.eq) 28, 3) := by decide +kernel
theorem d33 : decode yB 33 = .ok (.aload_n 1, 1) := by decide +kernel
theorem d34 : decode yB 34 = .ok (.iload_n 2, 1) := by decide +kernel
theorem d35 : decode yB 35 = .ok (.iload_n 3, 1) := by decide +kernel
theorem d36 : decode yB 36 = .ok (.invokestatic 177, 3) := by decide +kernel
theorem d39 : decode yB 39 = .ok (.astore 5, 2) := by decide +kernel
theorem d41 : decode yB 41 = .ok (.aload_n 0, 1) := by decide +kernel
theorem d42 : decode yB 42 = .ok (.aload 5, 2) := by decide +kernel
theorem d44 : decode yB 44 = .ok (.iload_n 3, 1) := by decide +kernel
theorem d45 : decode yB 45 = .ok (.invokestatic 47, 3) := by decide +kernel
theorem d48 : decode yB 48 = .ok (.putfield 15, 3) := by decide +kernel
theorem d51 : decode yB 51 = .ok (.aload_n 0, 1) := by decide +kernel
theorem d52 : decode yB 52 = .ok (.aload 5, 2) := by decide +kernel
theorem d54 : decode yB 54 = .ok (.putfield 9, 3) := by decide +kernel
theorem d57 : decode yB 57 = .ok (.return_, 1) := by decide +kernel
def site : List Cond := [.fieldLink "java/lang/String" 38 "java/lang/String" "COMPACT_STRINGS" "Z", Cmp3.tab, CodL.tab, .laysFinal "java/lang/String" "java/lang/String" "value" "[B", .fieldLink "java/lang/String" 9 "java/lang/String" "value" "[B", .laysFinal "java/lang/String" "java/lang/String" "coder" "B", .fieldLink "java/lang/String" 15 "java/lang/String" "coder" "B"] ++ objW "java/lang/String" 1 ++ staticW "java/lang/String" 177 Cmp3.yN ++ staticW "java/lang/String" 47 CodL.yN
def tab : Cond := tabOf yN yB 6 none site
def P (a : Addr) (D : Cell) (fV fC : Field) (b : Addr) (A : Cell) (z : Int32) (o len : Nat) (args : Array Value) (s : State) : Prop := args = #[.ref a, .ref b, .int (Int32.ofNat o), .int (Int32.ofNat len), .null] ∧ Blank "java/lang/String" a D s ∧ Found "java/lang/String" "value" "[B" fV s ∧ Found "java/lang/String" "coder" "B" fC s ∧ Ch b A s ∧ StaticIs s "java/lang/String" "COMPACT_STRINGS" "Z" (.int z) ∧ ¬ z = 0 ∧ 0 < len ∧ o + len ≤ A.slots.size ∧ len ≤ 536870912 ∧ ∀ i, i < len → ¬ 255 < cv A (o + i)
def E (a : Addr) (D : Cell) (fV fC : Field) (A : Cell) (o len : Nat) (r : Option Value) (s u : State) : Prop := Got a D fV fC A o len r s u
/-- len > 0, no char of the range above 255: a Latin-1 String of their low bytes -/
theorem law (l : Launch) (a : Addr) (D : Cell) (fV fC : Field) (b : Addr) (A : Cell) (z : Int32) (o len : Nat) : Law l yN 5 4 2 35 yB 6 none site (P a D fV fC b A z o len) (E a D fV fC A o len) [⟨a, fC.slot⟩, ⟨a, fV.slot⟩] 1 len := by
  refine Law.of_walk (plainFor_of_name (by decide +kernel)) (by decide +kernel) (by decide +kernel) (by decide) (fun _ _ h => by rw [h.1]; rfl) (fun _ U U' hal hh h => ⟨h.1, h.2.1.mv hal hh, h.2.2.1.al hal, h.2.2.2.1.al hal, h.2.2.2.2.1.mv hal hh, h.2.2.2.2.2.1.there hal hh, h.2.2.2.2.2.2⟩) (fun r U U' V V' h1 hal h2 h => Got.mv r U U' V V' h1 hal h2 h) ?_
  intro p e s m args below meth c s₁ X0 hexec hbytes hml hret hlk hnm hown hh0 W hP
  obtain ⟨rfl, hB, f1, f2, hA, s1, hz, l0, l1, l2, hp⟩ := hP
  have a31 := hA.1.2.2.2
  have c1 : Steps p.tables e below (s₁.setTop (entryFrame m #[.ref a, .ref b, .int (Int32.ofNat o), .int (Int32.ofNat len), .null] 6)) (s₁.setTop (mkF m 0 #[.val (.ref a), .val (.ref b), .val (.int (Int32.ofNat o)), .val (.int (Int32.ofNat len)), .val .null, .unset] [])) := entry rfl
  have c2 : Steps p.tables e below (s₁.setTop (entryFrame m #[.ref a, .ref b, .int (Int32.ofNat o), .int (Int32.ofNat len), .null] 6)) (s₁.setTop (mkF m 1 #[.val (.ref a), .val (.ref b), .val (.int (Int32.ofNat o)), .val (.int (Int32.ofNat len)), .val .null, .unset] [.ref a])) := c1.trans (by
    refine XS.aloadN X0.here hexec rfl (hb hbytes d0) rfl rfl ?_
    exact Steps.refl _)
  obtain ⟨T3, X3, q3, st3⟩ := X0.oinit hexec hown (wks W (objW "java/lang/String" 1)) (g := (mkF m 1 #[.val (.ref a), .val (.ref b), .val (.int (Int32.ofNat o)), .val (.int (Int32.ofNat len)), .val .null, .unset] [.ref a])) rfl (by rw [hml]; rfl) (rest := []) rfl (hb hbytes d1) (W := 0) (by show 2 * 0 + 0 ≤ _; decide) (Nat.le_of_ble_eq_true rfl) (Nat.le_of_ble_eq_true rfl)
  have hh3 := q3.trans hh0
  have c4 : Steps p.tables e below (s₁.setTop (entryFrame m #[.ref a, .ref b, .int (Int32.ofNat o), .int (Int32.ofNat len), .null] 6)) (T3.setTop (mkF m 27 #[.val (.ref a), .val (.ref b), .val (.int (Int32.ofNat o)), .val (.int (Int32.ofNat len)), .val .null, .unset] [])) := (c2.trans (st3 _ (Steps.refl _))).trans (by
    refine XS.iloadN X3.here hexec rfl (hb hbytes d4) rfl ?_
    refine XS.ifYes X3.here hexec rfl (pc0 := 5) rfl (hb hbytes d5) rfl (i0_ne_t (nz32 (by omega) l0)) (by decide) rfl ?_
    exact Steps.refl _)
  obtain ⟨T5, X5, q5, st5⟩ := X3.sget hexec hown (wk W (.fieldLink "java/lang/String" 38 "java/lang/String" "COMPACT_STRINGS" "Z")) s1 (fun _ _ h => by rw [hh3]; exact h) (g := (mkF m 27 #[.val (.ref a), .val (.ref b), .val (.int (Int32.ofNat o)), .val (.int (Int32.ofNat len)), .val .null, .unset] [])) rfl (hb hbytes d27)
  have hh5 := q5.trans hh3
  have c6 : Steps p.tables e below (s₁.setTop (entryFrame m #[.ref a, .ref b, .int (Int32.ofNat o), .int (Int32.ofNat len), .null] 6)) (T5.setTop (mkF m 30 #[.val (.ref a), .val (.ref b), .val (.int (Int32.ofNat o)), .val (.int (Int32.ofNat len)), .val .null, .unset] [.int z])) := c4.trans (st5 _ (Steps.refl _))
  have c7 : Steps p.tables e below (s₁.setTop (entryFrame m #[.ref a, .ref b, .int (Int32.ofNat o), .int (Int32.ofNat len), .null] 6)) (T5.setTop (mkF m 36 #[.val (.ref a), .val (.ref b), .val (.int (Int32.ofNat o)), .val (.int (Int32.ofNat len)), .val .null, .unset] [.int (Int32.ofNat len), .int (Int32.ofNat o), .ref b])) := c6.trans (by
    refine XS.ifNo X5.here hexec rfl (hb hbytes d30) rfl (i0_eq_f hz) ?_
    refine XS.aloadN X5.here hexec rfl (hb hbytes d33) rfl rfl ?_
    refine XS.iloadN X5.here hexec rfl (hb hbytes d34) rfl ?_
    refine XS.iloadN X5.here hexec rfl (hb hbytes d35) rfl ?_
    exact Steps.refl _)
  obtain ⟨v8, T8, X8, E8, g8⟩ := X5.callS hexec (Cmp3.law l b A o len) hown (wks W (staticW "java/lang/String" 177 Cmp3.yN)) (wk W Cmp3.tab) (W := 0) (Nat.le_of_ble_eq_true rfl) (Nat.le_of_ble_eq_true rfl) (Nat.le_refl _) (by show 0 + len ≤ len; omega) (g := (mkF m 36 #[.val (.ref a), .val (.ref b), .val (.int (Int32.ofNat o)), .val (.int (Int32.ofNat len)), .val .null, .unset] [.int (Int32.ofNat len), .int (Int32.ofNat o), .ref b])) rfl (by rw [hml]; rfl) c7 (argsL := [.ref b, .int (Int32.ofNat o), .int (Int32.ofNat len)]) (rest := []) rfl rfl (by show 2 * 0 + 0 ≤ _; decide) (hb hbytes d36) (⟨rfl, hA.mv X5.warmed.alike hh5, l1, l2, hp⟩)
  obtain ⟨e8, z8⟩ := E8
  obtain ⟨rfl, N, n1, n2, n3, n4, n5, n6⟩ := NewArr.mv _ T5 s _ _ hh5.symm (Vm.Alike.refl _) rfl e8
  rw [hh5] at z8
  have hB1 := hB.keep X8.warmed.alike (n6 _ _ hB.1)
  have hne : s.heap.size ≠ a := (Nat.ne_of_lt (Array.getElem?_eq_some_iff.mp hB.1).1).symm
  have c9 : Steps p.tables e below (s₁.setTop (entryFrame m #[.ref a, .ref b, .int (Int32.ofNat o), .int (Int32.ofNat len), .null] 6)) (T8.setTop (mkF m 39 #[.val (.ref a), .val (.ref b), .val (.int (Int32.ofNat o)), .val (.int (Int32.ofNat len)), .val .null, .unset] [.ref s.heap.size])) := g8
  have c10 : Steps p.tables e below (s₁.setTop (entryFrame m #[.ref a, .ref b, .int (Int32.ofNat o), .int (Int32.ofNat len), .null] 6)) (T8.setTop (mkF m 45 #[.val (.ref a), .val (.ref b), .val (.int (Int32.ofNat o)), .val (.int (Int32.ofNat len)), .val .null, .val (.ref s.heap.size)] [.int (Int32.ofNat N.slots.size), .ref s.heap.size, .ref a])) := by
    have hc : Steps p.tables e below (s₁.setTop (entryFrame m #[.ref a, .ref b, .int (Int32.ofNat o), .int (Int32.ofNat len), .null] 6)) (T8.setTop (mkF m 45 #[.val (.ref a), .val (.ref b), .val (.int (Int32.ofNat o)), .val (.int (Int32.ofNat len)), .val .null, .val (.ref s.heap.size)] [.int (Int32.ofNat len), .ref s.heap.size, .ref a])) := c9.trans (by
      refine XS.astore X8.here hexec rfl (hb hbytes d39) rfl rfl rfl ?_
      refine XS.aloadN X8.here hexec rfl (hb hbytes d41) rfl rfl ?_
      refine XS.aload X8.here hexec rfl (hb hbytes d42) rfl rfl ?_
      refine XS.iloadN X8.here hexec rfl (hb hbytes d44) rfl ?_
      exact Steps.refl _)
    rw [n4]; exact hc
  obtain ⟨v11, T11, X11, E11, g11⟩ := X8.callS hexec (CodL.law l s.heap.size N) hown (wks W (staticW "java/lang/String" 47 CodL.yN)) (wk W CodL.tab) (W := 1) (Nat.le_of_ble_eq_true rfl) (Nat.le_of_ble_eq_true rfl) (Nat.le_refl _) (by show 0 + len + 0 ≤ len; omega) (g := (mkF m 45 #[.val (.ref a), .val (.ref b), .val (.int (Int32.ofNat o)), .val (.int (Int32.ofNat len)), .val .null, .val (.ref s.heap.size)] [.int (Int32.ofNat N.slots.size), .ref s.heap.size, .ref a])) rfl (by rw [hml]; rfl) c10 (argsL := [.ref s.heap.size, .int (Int32.ofNat N.slots.size)]) (rest := [.ref a]) rfl rfl (by show 2 * 0 + (1 + 0) ≤ _; decide) (hb hbytes d45) (⟨rfl, n1⟩)
  obtain ⟨rfl, q11⟩ := E11
  have hB11 := hB1.mv (X8.warmed.alike.symm.trans X11.warmed.alike) q11
  have c12 : Steps p.tables e below (s₁.setTop (entryFrame m #[.ref a, .ref b, .int (Int32.ofNat o), .int (Int32.ofNat len), .null] 6)) (T11.setTop (mkF m 48 #[.val (.ref a), .val (.ref b), .val (.int (Int32.ofNat o)), .val (.int (Int32.ofNat len)), .val .null, .val (.ref s.heap.size)] [.int 0, .ref a])) := g11
  obtain ⟨T13, X13, p13, bl13, sl13, st13⟩ := X11.finit hexec hown (wk W (.fieldLink "java/lang/String" 15 "java/lang/String" "coder" "B")) (Or.inr ⟨_, (wk W (.laysFinal "java/lang/String" "java/lang/String" "coder" "B"))⟩) (Or.inl ⟨rfl, hnm⟩) f2 (Or.inl rfl) hB11 (t := .byte) (by decide +kernel) rfl (g := (mkF m 48 #[.val (.ref a), .val (.ref b), .val (.int (Int32.ofNat o)), .val (.int (Int32.ofNat len)), .val .null, .val (.ref s.heap.size)] [.int 0, .ref a])) rfl (rest := []) rfl (hb hbytes d48)
  have c14 : Steps p.tables e below (s₁.setTop (entryFrame m #[.ref a, .ref b, .int (Int32.ofNat o), .int (Int32.ofNat len), .null] 6)) (T13.setTop (mkF m 54 #[.val (.ref a), .val (.ref b), .val (.int (Int32.ofNat o)), .val (.int (Int32.ofNat len)), .val .null, .val (.ref s.heap.size)] [.ref s.heap.size, .ref a])) := (c12.trans (st13 _ (Steps.refl _))).trans (by
    refine XS.aloadN X13.here hexec rfl (hb hbytes d51) rfl rfl ?_
    refine XS.aload X13.here hexec rfl (hb hbytes d52) rfl rfl ?_
    exact Steps.refl _)
  obtain ⟨T15, X15, p15, bl15, sl15, st15⟩ := X13.finit hexec hown (wk W (.fieldLink "java/lang/String" 9 "java/lang/String" "value" "[B")) (Or.inr ⟨_, (wk W (.laysFinal "java/lang/String" "java/lang/String" "value" "[B"))⟩) (Or.inl ⟨rfl, hnm⟩) f1 (Or.inl rfl) bl13 (t := (.array .byte)) (by decide +kernel) rfl (g := (mkF m 54 #[.val (.ref a), .val (.ref b), .val (.int (Int32.ofNat o)), .val (.int (Int32.ofNat len)), .val .null, .val (.ref s.heap.size)] [.ref s.heap.size, .ref a])) rfl (rest := []) rfl (hb hbytes d54)
  have c16 : Steps p.tables e below (s₁.setTop (entryFrame m #[.ref a, .ref b, .int (Int32.ofNat o), .int (Int32.ofNat len), .null] 6)) (T15.setTop (mkF m 57 #[.val (.ref a), .val (.ref b), .val (.int (Int32.ofNat o)), .val (.int (Int32.ofNat len)), .val .null, .val (.ref s.heap.size)] [])) := c14.trans (st15 _ (Steps.refl _))
  have ap := apart (Or.inr ⟨_, (wk W (.laysFinal "java/lang/String" "java/lang/String" "value" "[B"))⟩) (Or.inr ⟨_, (wk W (.laysFinal "java/lang/String" "java/lang/String" "coder" "B"))⟩) f1 f2 (t₁ := .array .byte) (t₂ := .byte) (by decide +kernel) (by decide +kernel) (by decide)
  have al := X8.warmed.alike.symm.trans X15.warmed.alike
  have n7 : T11.heap[s.heap.size]? = some N := by rw [q11]; exact n1.1
  exact ⟨T15, none, _, _, _, X15, by simp, rfl, by omega, (fun _ => rfl), ⟨rfl, _, N, bl15, ((Same.refl D _).set _ (by simp)).set _ (by simp), sl15, (Cell.slots_setSlot_ne _ ap).trans sl13, n1.keep al (p15.other hne (p13.other hne n7)), n2, by rw [al.findClass]; exact n3, n4, n5, fun y c h1 h2 => p15.other h1 (p13.other h1 (by rw [q11]; exact n6 y c h2)), by rw [p15.2.2, p13.2.2, q11]; exact z8⟩, fun fs hl => c16.trans (X15.returnOut hexec hret (hb hbytes d57) hl)⟩
end New4
namespace New1
def yN : MethodName := ⟨"java/lang/String", "<init>", "([C)V"⟩
abbrev yB : ByteArray := jdk_42_method_3_code
theorem d0 : decode yB 0 = .ok (.aload_n 0, 1) := by decide +kernel
theorem d1 : decode yB 1 = .ok (.aload_n 1, 1) := by decide +kernel
theorem d2 : decode yB 2 = .ok (.iconst 0, 1) := by decide +kernel
theorem d3 : decode yB 3 = .ok (.aload_n 1, 1) := by decide +kernel
theorem d4 : decode yB 4 = .ok (.arraylength, 1) := by decide +kernel
theorem d5 : decode yB 5 = .ok (.aconst_null, 1) := by decide +kernel
theorem d6 : decode yB 6 = .ok (.invokespecial 27, 3) := by decide +kernel
theorem d9 : decode yB 9 = .ok (.return_, 1) := by decide +kernel
def site : List Cond := [New4.tab] ++ initW "java/lang/String" 27 New4.yN
def tab : Cond := tabOf yN yB 2 none site
def P (a : Addr) (D : Cell) (fV fC : Field) (b : Addr) (A : Cell) (z : Int32) (args : Array Value) (s : State) : Prop := args = #[.ref a, .ref b] ∧ Blank "java/lang/String" a D s ∧ Found "java/lang/String" "value" "[B" fV s ∧ Found "java/lang/String" "coder" "B" fC s ∧ Ch b A s ∧ StaticIs s "java/lang/String" "COMPACT_STRINGS" "Z" (.int z) ∧ ¬ z = 0 ∧ 0 < A.slots.size ∧ A.slots.size ≤ 536870912 ∧ ∀ i, i < A.slots.size → ¬ 255 < cv A i
def E (a : Addr) (D : Cell) (fV fC : Field) (A : Cell) (r : Option Value) (s u : State) : Prop := Got a D fV fC A 0 A.slots.size r s u
/-- new String(chars), not empty, no char above 255: a Latin-1 String of their low bytes -/
theorem law (l : Launch) (a : Addr) (D : Cell) (fV fC : Field) (b : Addr) (A : Cell) (z : Int32) : Law l yN 2 1 3 52 yB 2 none site (P a D fV fC b A z) (E a D fV fC A) [⟨a, fC.slot⟩, ⟨a, fV.slot⟩] 1 A.slots.size := by
  refine Law.of_walk (plainFor_of_name (by decide +kernel)) (by decide +kernel) (by decide +kernel) (by decide) (fun _ _ h => by rw [h.1]; rfl) (fun _ U U' hal hh h => ⟨h.1, h.2.1.mv hal hh, h.2.2.1.al hal, h.2.2.2.1.al hal, h.2.2.2.2.1.mv hal hh, h.2.2.2.2.2.1.there hal hh, h.2.2.2.2.2.2⟩) (fun r U U' V V' h1 hal h2 h => Got.mv r U U' V V' h1 hal h2 h) ?_
  intro p e s m args below meth c s₁ X0 hexec hbytes hml hret hlk hnm hown hh0 W hP
  obtain ⟨rfl, hB, f1, f2, hA, s1, hz, l0, l2, hp⟩ := hP
  have c1 : Steps p.tables e below (s₁.setTop (entryFrame m #[.ref a, .ref b] 2)) (s₁.setTop (mkF m 0 #[.val (.ref a), .val (.ref b)] [])) := entry rfl
  have c2 : Steps p.tables e below (s₁.setTop (entryFrame m #[.ref a, .ref b] 2)) (s₁.setTop (mkF m 6 #[.val (.ref a), .val (.ref b)] [.null, .int (Int32.ofNat A.slots.size), .int 0, .ref b, .ref a])) := c1.trans (by
    refine XS.aloadN X0.here hexec rfl (hb hbytes d0) rfl rfl ?_
    refine XS.aloadN X0.here hexec rfl (hb hbytes d1) rfl rfl ?_
    refine iconstV X0.here hexec rfl 0 (hb hbytes d2) (by decide) ?_
    refine XS.aloadN X0.here hexec rfl (hb hbytes d3) rfl rfl ?_
    refine X0.alen hexec (hA.1.mv X0.warmed.alike hh0) rfl rfl (hb hbytes d4) ?_
    refine XS.aconstNull X0.here hexec rfl (hb hbytes d5) ?_
    exact Steps.refl _)
  obtain ⟨v3, T3, X3, E3, g3⟩ := X0.callN hexec (New4.law l a D fV fC b A z 0 A.slots.size) rfl hown (wks W (initW "java/lang/String" 27 New4.yN)) (W New4.tab (by simp only [site, List.mem_cons, List.mem_append, true_or, or_true])) (W := 0) (Nat.le_of_ble_eq_true rfl) (Nat.le_of_ble_eq_true rfl) (Nat.le_refl _) (by show 0 + A.slots.size ≤ A.slots.size; omega) (g := (mkF m 6 #[.val (.ref a), .val (.ref b)] [.null, .int (Int32.ofNat A.slots.size), .int (Int32.ofNat 0), .ref b, .ref a])) rfl (by rw [hml]; rfl) c2 (argsL := [.ref b, .int (Int32.ofNat 0), .int (Int32.ofNat A.slots.size), .null]) (rest := []) rfl rfl (by show 2 * 0 + 0 ≤ _; decide) (hb hbytes d6) (⟨rfl, hB.mv X0.warmed.alike hh0, f1.al X0.warmed.alike, f2.al X0.warmed.alike, hA.mv X0.warmed.alike hh0, s1.there X0.warmed.alike hh0, hz, l0, by omega, l2, fun i hi => by rw [Nat.zero_add]; exact hp i hi⟩)
  have e0 := Got.mv _ s₁ s _ _ hh0.symm (Vm.Alike.refl _) rfl E3
  obtain rfl := e0.1
  have c4 : Steps p.tables e below (s₁.setTop (entryFrame m #[.ref a, .ref b] 2)) (T3.setTop (mkF m 9 #[.val (.ref a), .val (.ref b)] [])) := g3
  exact ⟨T3, none, _, _, _, X3, by simp, rfl, by omega, (fun _ => rfl), e0, fun fs hl => c4.trans (X3.returnOut hexec hret (hb hbytes d9) hl)⟩
theorem pays {l : Launch} {R : Room} {p : Program} {e : Env} {below : List Frame} {s : State} {sargs : Array Value} {len W : Nat} (a : Addr) (D : Cell) (fV fC : Field) (b : Addr) (A : Cell) (z : Int32) (htab : tab.before sargs s = true) (hfr : 4 ≤ R.frames) (hlo : W + 65 ≤ R.locals) :
    Back l R p e below s sargs yN len W (fun A₁ a₁ => A₁.cells + 1 ≤ R.cells ∧ A₁.slots + A.slots.size ≤ R.slots ∧ P a D fV fC b A z a₁ A₁.U) (fun A₁ _ v₁ B₁ => E a D fV fC A v₁ A₁.U B₁.U ∧ B₁.locs = A₁.locs ++ [⟨a, fC.slot⟩, ⟨a, fV.slot⟩] ∧ B₁.cells = A₁.cells + 1 ∧ B₁.slots = A₁.slots + A.slots.size) :=
  (law l a D fV fC b A z).pays htab hfr (by omega)
end New1
end StrChars
namespace StrChars.Road
open Jvm Sem ClassFile Op Lib Jvm.Stand Jvm.Free Jvm.Free.XT
open Jvm.Lib.Cold (StaticIs)
abbrev ST : String := "java/lang/String"
/-- every table word that New1's law asks, flat -/
abbrev words : List Jvm.Cond := [.code New1.yN New1.yB 2 none, .initialized ST, .methodLink ST 27 New4.yN, .instanceMethod New4.yN,
  .code New4.yN New4.yB 6 none, .fieldLink ST 38 ST "COMPACT_STRINGS" "Z", .laysFinal ST ST "value" "[B", .fieldLink ST 9 ST "value" "[B", .laysFinal ST ST "coder" "B", .fieldLink ST 15 ST "coder" "B",
  .methodLink ST 1 Lib.objectInit, .instanceMethod Lib.objectInit, .code Lib.objectInit ⟨#[0xb1]⟩ 1 none, .methodLink ST 177 Cmp3.yN, .static Cmp3.yN, .methodLink ST 47 CodL.yN, .static CodL.yN,
  .code Cmp3.yN Cmp3.yB 6 (some (.array .byte)), .initialized U16, .arrayClass .byte, .methodLink U16 115 Cmp5.yN, .static Cmp5.yN, .code Cmp5.yN Cmp5.yB 7 (some .int), .code CodL.yN CodL.yB 2 (some .byte)]
theorem tab_of {a : Array Value} {s : State} (h : ∀ w ∈ words, w.before a s = true) : New1.tab.before a s = true := by
  have h5 : Cmp5.tab.before a s = true := unparts (wk h (.code Cmp5.yN Cmp5.yB 7 (some .int))) (wks h (.initialized Cmp5.yN.cls :: Cmp5.site))
  have hc : CodL.tab.before a s = true := unparts (wk h (.code CodL.yN CodL.yB 2 (some .byte))) (wks h (.initialized CodL.yN.cls :: CodL.site))
  have q5 : ∀ w ∈ Cmp5.tab :: words, w.before a s = true := fun w hw => (List.mem_cons.mp hw).elim (fun e => e ▸ h5) (h w)
  have h3 : Cmp3.tab.before a s = true := unparts (wk q5 (.code Cmp3.yN Cmp3.yB 6 (some (.array .byte)))) (wks q5 (.initialized Cmp3.yN.cls :: Cmp3.site))
  have q3 : ∀ w ∈ Cmp3.tab :: CodL.tab :: words, w.before a s = true := fun w hw => (List.mem_cons.mp hw).elim (fun e => e ▸ h3) fun hw => (List.mem_cons.mp hw).elim (fun e => e ▸ hc) (h w)
  have h4 : New4.tab.before a s = true := unparts (wk q3 (.code New4.yN New4.yB 6 none)) (wks q3 (.initialized New4.yN.cls :: New4.site))
  have q4 : ∀ w ∈ New4.tab :: words, w.before a s = true := fun w hw => (List.mem_cons.mp hw).elim (fun e => e ▸ h4) (h w)
  exact unparts (wk q4 (.code New1.yN New1.yB 2 none)) (wks q4 (.initialized New1.yN.cls :: New1.site))
/-- the words ride from the start Z to the walk's own state -/
theorem moved {Z s : State} {a0 args : Array Value} (hZ : Z.Warmed39 s.vm) (hw : ∀ d ∈ words, d.before a0 Z = true) : ∀ d ∈ words, d.before args s = true := fun d hd => by
  have q := hw d hd
  have t : ∀ d ∈ words, d = .arrayClass .byte ∨ (d.onTables && d.keepsFace) = true := by decide +kernel
  rcases t d hd with rfl | t
  · exact RoadKit.mvA hZ q
  · exact RoadKit.mv hZ q t
/-- WHAT COMES BACK, over the tables of the start Z: h the heap at the call, h' behind it -/
def Q (Z : State) (x : Addr) (A : Cell) (h : Heap) (v : Option Value) (h' : Heap) (L : List Loc) : Prop := v = none ∧ (∀ y ∈ L, y.base = x) ∧ RoadKit.Keep h h' [x] ∧ h'.size = h.size + 1 ∧ RoadKit.Exa Z h' x ST ∧ RoadKit.Fld Z h' x ST "value" "[B" (.ref h.size) ∧ RoadKit.Fld Z h' x ST "coder" "B" (.int 0) ∧
  (∃ V : Cell, RoadKit.Arr Z h' h.size V .byte ∧ V.vm = .none ∧ Z.vm.findClass "[B" = some V.cls ∧ V.slots.size = A.slots.size ∧ ∀ j, j < A.slots.size → V.slots[j]? = some (.int (lo8 (cv A j)))) ∧
  ∀ (O n d : String) (w : Value), RoadKit.Fld Z h x O n d w → RoadKit.slotOf Z O n d ≠ RoadKit.slotOf Z ST "value" "[B" → RoadKit.slotOf Z O n d ≠ RoadKit.slotOf Z ST "coder" "B" → RoadKit.Fld Z h' x O n d w
/-- **new String(chars) AT A CALL, IN THE ROAD'S FORM**: for specialBack behind newO: x the fresh String, b the char[] with the cell A -/
theorem back {p : Program} {l : Launch} {e : Env} {R : Room} {s : State} {args : Array Value} {below : List Frame} {len W : Nat} {Z : State} {a0 : Array Value} {h : Heap} (hZ : Z.Warmed39 s.vm) (hw : ∀ d ∈ words, d.before a0 Z = true) {kI : Nat} (wi : (Jvm.Cond.instantiable ST kI).before a0 Z = true)
    {x b : Addr} {A : Cell} {z : Int32} {v0 c0 : Value} (E : RoadKit.Exa Z h x ST) (V : RoadKit.Fld Z h x ST "value" "[B" v0) (C : RoadKit.Fld Z h x ST "coder" "B" c0) (K : RoadKit.Arr Z h b A .char) (hty : Typed .char A) (S : RoadKit.Sta Z h ST "COMPACT_STRINGS" "Z" (.int z)) (hz : ¬ z = 0)
    (l0 : 0 < A.slots.size) (l2 : A.slots.size ≤ 536870912) (hp : ∀ i, i < A.slots.size → ¬ 255 < cv A i) (hfr : 4 ≤ R.frames) (hlo : W + 65 ≤ R.locals) :
    Back l R p e below s args New1.yN len W (fun P a => a = #[.ref x, .ref b] ∧ P.U.heap = h ∧ P.cells + 1 ≤ R.cells ∧ P.slots + A.slots.size ≤ R.slots)
      (fun P _ v B => ∃ L, Q Z x A h v B.U.heap L ∧ B.locs = P.locs ++ L ∧ B.cells = P.cells + 1 ∧ B.slots = P.slots + A.slots.size) := by
  intro m meth c P g ig mk a X hg hsize hdg hW hn hp'
  obtain ⟨rfl, rfl, r1, r2⟩ := hp'
  have al : Z.vm.Alike P.U.vm := hZ.alike.trans X.warmed.alike
  obtain ⟨D, cfV, kV, iV, fV, hD, gV, stV, knV, obV, asV, slV⟩ := id V
  obtain ⟨D', cfC, kC, iC, fC, hD', gC, stC, -, -, asC, slC⟩ := id C
  cases hD.symm.trans hD'
  obtain ⟨D2, kD, e1, e2, e3, e4, e5⟩ := id E
  cases hD.symm.trans e1
  obtain ⟨c2, k2, i1, i2, i3, -⟩ := Cond.instantiable_spec wi
  cases e2.symm.trans i1
  cases e3.symm.trans i2
  obtain ⟨kU, u1, u2⟩ := al.2.2 _ _ e3
  have hB : Blank ST x D P.U := ⟨hD, ⟨knV, fun q hq => by rw [hq] at obV; cases obV⟩, by rw [al.findClass]; exact e2, kU, u1, by rw [u2]; exact i3, by rw [u2]; exact e5 i3⟩
  have F1 : Found ST "value" "[B" fV P.U := ⟨SBG.found_only al ⟨cfV, kV, iV, gV⟩, stV⟩
  have F2 : Found ST "coder" "B" fC P.U := ⟨SBG.found_only al ⟨cfC, kC, iC, gC⟩, stC⟩
  have hA : Ch b A P.U := ⟨⟨K.1, State.isArrayOf_alike al K.2.1, K.2.2, by omega⟩, hty⟩
  have hS : StaticIs P.U ST "COMPACT_STRINGS" "Z" (.int z) := by
    obtain ⟨cfS, iS, kS, fS, st, cS, t1, t2, t3, t4, t5, t6, t7⟩ := S
    exact StaticIs.there (s := { Z with heap := P.U.heap }) ⟨cfS, iS, kS, fS, st, cS, t1, t2, t3, t4, t5, (fun q => by rw [q] at t6; cases t6), t7⟩ al rfl
  obtain ⟨v, B, X', ⟨⟨hv, E', V', q1, q2, q3, q4, q5, q6, q7, q8, q9, q10, q11⟩, hl, hc, hs⟩, st⟩ := New1.pays x D fV fC b A z (tab_of (moved hZ hw)) hfr hlo m meth c P g ig mk _ X hg hsize hdg hW hn ⟨r1, r2, rfl, hB, F1, F2, hA, hS, hz, l0, l2, hp⟩
  have al' : Z.vm.Alike B.U.vm := hZ.alike.trans X'.warmed.alike
  have hsz : E'.slots.size = D.slots.size := by
    obtain ⟨-, -, -, kB, w1, w2, w3⟩ := q1
    obtain ⟨kB', y1, y2⟩ := al'.2.2 _ _ e3
    rw [q2.2.1] at w1
    cases w1.symm.trans y1
    rw [w3, e5 i3, y2]
  refine ⟨v, B, X', ⟨_, ⟨hv, ?_, ⟨by omega, fun y cy hy hn' => q10 y cy (by simpa using hn') hy, fun y cy hy => ?_⟩, q11, ⟨E', _, q1.1, by rw [q2.2.1]; exact e2, by rw [q2.2.1]; exact e3, by rw [q2.1]; exact obV, fun _ => by rw [hsz]; exact e5 i3⟩,
    ⟨E', cfV, kV, iV, fV, q1.1, gV, stV, by rw [q2.1]; exact knV, by rw [q2.1]; exact obV, by rw [q2.2.1]; exact asV, q3⟩, ⟨E', cfC, kC, iC, fC, q1.1, gC, stC, by rw [q2.1]; exact knV, by rw [q2.1]; exact obV, by rw [q2.2.1]; exact asC, q4⟩,
    ⟨V', ⟨q5.1, State.isArrayOf_alike al'.symm q5.2.1, q5.2.2.1⟩, q6, by rw [← al'.findClass]; exact q7, q8, fun j hj => by have := q9 j hj; rwa [Nat.zero_add] at this⟩, fun O n d w F n1 n2 => ?_⟩, hl, hc, hs⟩, st⟩
  · intro y hy
    simp only [List.mem_cons, List.not_mem_nil, or_false] at hy
    rcases hy with rfl | rfl <;> rfl
  · by_cases q : y = x
    · subst q
      cases hD.symm.trans hy
      exact ⟨E', q1.1, q2.2.1, q2.1, hsz⟩
    · exact ⟨cy, q10 y cy q hy, rfl, rfl, rfl⟩
  · obtain ⟨D3, cf, k, i, f, g1, g2, g3, g4, g5, g6, g7⟩ := F
    cases hD.symm.trans g1
    simp only [RoadKit.slotOf, g2, gV, gC, Option.map_some, Option.getD_some] at n1 n2
    exact ⟨E', cf, k, i, f, q1.1, g2, g3, by rw [q2.1]; exact g4, by rw [q2.1]; exact g5, by rw [q2.2.1]; exact g6, by rw [q2.2.2 f.slot (by simp [n1, n2])]; exact g7⟩
end StrChars.Road
namespace StrChars.Road
open Jvm Sem ClassFile Op Lib Jvm.Stand Jvm.Free Jvm.Free.XT
/-- WHAT COMES BACK, the byte[] as a list of values -/
def QA (Z : State) (x : Addr) (zn : Int32) (cs : List Int32) (h : Heap) (v : Option Value) (h' : Heap) (L : List Loc) : Prop := v = none ∧ (∀ y ∈ L, y.base = x) ∧ RoadKit.Keep h h' [x] ∧ h'.size = h.size + 1 ∧ RoadKit.Exa Z h' x ST ∧ RoadKit.Fld Z h' x ST "value" "[B" (.ref h.size) ∧ RoadKit.Fld Z h' x ST "coder" "B" (.int 0) ∧
  (∃ kb, Z.vm.findClass "[B" = some kb ∧ RoadKit.Arv Z h' h.size kb .byte zn (cs.map fun c => .int (lo8 c)) (.int 0)) ∧
  ∀ (O n d : String) (w : Value), RoadKit.Fld Z h x O n d w → RoadKit.slotOf Z O n d ≠ RoadKit.slotOf Z ST "value" "[B" → RoadKit.slotOf Z O n d ≠ RoadKit.slotOf Z ST "coder" "B" → RoadKit.Fld Z h' x O n d w
/-- **new String(chars) AT A CALL, THE ARRAYS AS LISTS**: the char[] at b holds cs, not empty, no char above 255 -/
theorem backArv {p : Program} {l : Launch} {e : Env} {R : Room} {s : State} {args : Array Value} {below : List Frame} {len W : Nat} {Z : State} {a0 : Array Value} {h : Heap} (hZ : Z.Warmed39 s.vm) (hw : ∀ d ∈ words, d.before a0 Z = true) {kI : Nat} (wi : (Jvm.Cond.instantiable ST kI).before a0 Z = true)
    {x b : Addr} {k : ClassId} {zn z : Int32} {cs : List Int32} {dv v0 c0 : Value} (E : RoadKit.Exa Z h x ST) (V : RoadKit.Fld Z h x ST "value" "[B" v0) (C : RoadKit.Fld Z h x ST "coder" "B" c0) (K : RoadKit.Arv Z h b k .char zn (cs.map Value.int) dv) (S : RoadKit.Sta Z h ST "COMPACT_STRINGS" "Z" (.int z)) (hz : ¬ z = 0)
    (hlen : zn.toNatClampNeg = cs.length) (h0 : 0 < cs.length) (hbig : cs.length ≤ 536870912) (hall : ∀ c ∈ cs, ¬ 255 < c) (hfr : 4 ≤ R.frames) (hlo : W + 65 ≤ R.locals) :
    Back l R p e below s args New1.yN len W (fun P a => a = #[.ref x, .ref b] ∧ P.U.heap = h ∧ P.cells + 1 ≤ R.cells ∧ P.slots + cs.length ≤ R.slots)
      (fun P _ v B => ∃ L, QA Z x zn cs h v B.U.heap L ∧ B.locs = P.locs ++ L ∧ B.cells = P.cells + 1 ∧ B.slots = P.slots + cs.length) := by
  obtain ⟨A, K1, K2, K3, K4, K5, K6⟩ := K
  have e : A.slots.size = cs.length := K3.trans hlen
  have hat : ∀ (i : Nat) (hi : i < cs.length), A.slots[i]? = some (.int cs[i]) := fun i hi => by rw [K5 i (by omega)]; simp [List.getD_eq_getElem?_getD, hi]
  have hcv : ∀ (i : Nat) (hi : i < cs.length), cv A i = cs[i] := fun i hi => by unfold cv; rw [hat i hi]
  have hty : Typed .char A := fun i v hv => by
    have hi : i < A.slots.size := (Array.getElem?_eq_some_iff.mp hv).1
    have q := K5 i hi
    rw [hv] at q
    rw [Option.some.inj q]
    exact K6 i hi
  refine Back.mono (back hZ hw wi E V C K1 hty S hz (by omega) (by omega) (fun i hi => by rw [hcv i (by omega)]; exact hall _ (List.getElem_mem _)) hfr hlo) (fun P a hp => ⟨hp.1, hp.2.1, hp.2.2.1, by rw [e]; exact hp.2.2.2⟩) (fun P a v B hp hq => ?_)
  obtain ⟨L, ⟨q1, q2, q3, q4, q5, q6, q7, ⟨V', v1, v2, v3, v4, v5⟩, q9⟩, hl, hc, hs⟩ := hq
  refine ⟨L, ⟨q1, q2, q3, q4, q5, q6, q7, ⟨V'.cls, v3, V', v1, rfl, by rw [v4, e, hlen], K4, fun i hi => ?_, fun i hi => ?_⟩, q9⟩, hl, hc, by rw [hs, e]⟩
  · have hi' : i < cs.length := by omega
    rw [v5 i (by omega), hcv i hi']; simp [List.getD_eq_getElem?_getD, hi']
  · have hi' : i < cs.length := by omega
    simp only [List.getD_eq_getElem?_getD, List.getElem?_map, List.getElem?_eq_getElem hi', Option.map_some, Option.getD_some]
    exact fits_lo8 _
end StrChars.Road
namespace StrChars.Road
open Jvm Sem ClassFile Op Lib Jvm.Stand Jvm.Free Jvm.Free.XT
/-- WHAT COMES BACK, in the writer's own shape -/
def QV (Z : State) (x : Addr) (N : Int32) (bs : List Int32) (h : Heap) (n0 : Nat) (v : Option Value) (h' : Heap) (L : List Loc) : Prop := v = none ∧ RoadKit.Fr n0 L ∧ RoadKit.Keep h h' [x] ∧ RoadKit.Exa Z h' x ST ∧ RoadKit.Fld Z h' x ST "coder" "B" (.int 0) ∧
  ∃ (t : Addr) (kb : ClassId), n0 ≤ t ∧ h.size ≤ t ∧ ¬ t = x ∧ RoadKit.Fld Z h' x ST "value" "[B" (.ref t) ∧ RoadKit.Arv Z h' t kb .byte N (bs.map Value.int) (.int 0)
/-- **new String(chars) AT A CALL, FOR THE WRITER**: a char[] of n known ints, each 0 to 255 -/
theorem backV {p : Program} {l : Launch} {e : Env} {R : Room} {s : State} {args : Array Value} {below : List Frame} {len W : Nat} {Z : State} {a0 : Array Value} {h : Heap} (hZ : Z.Warmed39 s.vm) (hw : ∀ d ∈ words, d.before a0 Z = true) {kI : Nat} (wi : (Jvm.Cond.instantiable ST kI).before a0 Z = true)
    {x b : Addr} {kC : ClassId} {cs bs : List Int32} {d v0 c0 : Value} {z N : Int32} {n n0 : Nat} (hx0 : n0 ≤ x) (hh0 : n0 ≤ h.size) (E : RoadKit.Exa Z h x ST) (V : RoadKit.Fld Z h x ST "value" "[B" v0) (C : RoadKit.Fld Z h x ST "coder" "B" c0) (K : RoadKit.Arv Z h b kC .char N (cs.map Value.int) d) (S : RoadKit.Sta Z h ST "COMPACT_STRINGS" "Z" (.int z)) (hz : ¬ z = 0)
    (hn : cs.length = n) (hN : N = Int32.ofNat n) (l0 : 0 < n) (l2 : n ≤ 4000) (hp : ∀ c ∈ cs, ¬ c < 0 ∧ ¬ (255 : Int32) < c) (hb : bs = cs.map (fun c => c.toInt8.toInt32)) (hfr : 4 ≤ R.frames) (hlo : W + 65 ≤ R.locals) :
    Back l R p e below s args (⟨"java/lang/String", "<init>", "([C)V"⟩ : MethodName) len W (fun P a => a = #[.ref x, .ref b] ∧ P.U.heap = h ∧ P.cells + 1 ≤ R.cells ∧ P.slots + n ≤ R.slots)
      (fun P _ v B => ∃ L, QV Z x N bs h n0 v B.U.heap L ∧ B.locs = P.locs ++ L ∧ B.cells = P.cells + 1 ∧ B.slots = P.slots + n) := by
  subst hn hN hb
  refine Back.mono (backArv hZ hw wi E V C K S hz (n32 (by omega)) l0 (by omega) (fun c hc => (hp c hc).2) hfr hlo) (fun P a hp => hp) (fun P a v B hp hq => ?_)
  obtain ⟨L, ⟨q1, q2, q3, q4, q5, q6, q7, ⟨kb, v1, v2⟩, q9⟩, hl, hc, hs⟩ := hq
  exact ⟨L, ⟨q1, fun y hy => by rw [q2 y hy]; exact hx0, q3, q5, q7, h.size, kb, hh0, Nat.le_refl _, Nat.ne_of_gt E.lt, q6, by rw [List.map_map]; exact v2⟩, hl, hc, hs⟩
end StrChars.Road
end Jvm.Pilot.@@N@@
namespace Jvm.Pilot.@@N@@
open Jvm Jvm.ClassFile Sem Op Lib Jvm.Free Jvm.Stand Jvm.LawKit Jvm.RoadKit Bundle Jvm.Pilot.@@N@@.Jvm.D
/-- what is known of the String constant "" of java/lang/String's own pool: not loaded since the start, or loaded: an empty String -/
def Em (Z : State) (vm : Vm) (h : Heap) : Prop := IB Z vm [] ∨ ∃ (a b : Addr) (k : ClassId), Lit (Z.setVm vm) "java/lang/String" 7 a ∧ Exa Z h a "java/lang/String" ∧ Fld Z h a "java/lang/String" "coder" "B" (.int (0 : Int32)) ∧ Fld Z h a "java/lang/String" "value" "[B" (.ref b) ∧ Arv Z h b k .byte (0 : Int32) (own_bs []) (.int (0 : Int32))
theorem Em.keep {Z : State} {vm : Vm} {h h' : Heap} (M : Em Z vm h) (K : Keep h h' []) : Em Z vm h' := by
  rcases M with I | ⟨a, b, k, L, E, F, G, A⟩
  · exact Or.inl I
  · exact Or.inr ⟨a, b, k, L, E.keep K, F.keep K nin0, G.keep K nin0, A.keep K nin0⟩
theorem Em.warm {Z s : State} {vm vm' : Vm} {h : Heap} (M : Em Z vm h) (hW : (s.setVm vm).WarmedH vm') : Em Z vm' h := by
  rcases M with I | ⟨a, b, k, L, r⟩
  · refine Or.inl ?_
    obtain ⟨more, q1, q2⟩ := I
    exact ⟨more, hW.interned_eq.trans q1, q2⟩
  · have L' : Lit (s.setVm vm) "java/lang/String" 7 a := L
    exact Or.inr ⟨a, b, k, L'.stays hW.wide, r⟩
theorem own_emR {Z T : State} {h : Heap} {fs : List Frame} (e : T.heap = h) (q : Em Z T.vm h) : Em Z (T.setFrames fs).vm (T.setFrames fs).heap := by
  show Em Z T.vm T.heap
  rw [e]; exact q
theorem own_backOfE {l : Launch} {R : Room} {p : Program} {e : Env} {below : List Frame} {s Z : State} {args a0 : Array Value} {h : Heap} {y : MethodName} {bytes : ByteArray} {maxL : Nat} {ret : Option FieldType} {rm : Room} {len W : Nat} {as' : Array Value} {Q : Option Value → Heap → List Loc → Prop}
    (hM : MetFree l y (head1 [Jvm.Cond.code y bytes maxL ret] rm) (fun a U => a = as' ∧ Z.Warmed39 U.vm ∧ U.heap = h ∧ Em Z U.vm h) (fun _ _ _ _ _ => True) (fun _ U o U' => ∃ v L, o = .returned v ∧ Q v U'.heap L ∧ ReturnedEndW U o U' L rm.cells rm.slots ∧ Em Z U'.vm U'.heap))
    (hZ : Z.Warmed39 s.vm) (wc : (Jvm.Cond.code y bytes maxL ret).before a0 Z = true) (wz : (Jvm.Cond.initialized y.cls).before a0 Z = true) (hf : rm.frames + 1 ≤ R.frames) (hl : W + (maxL + 11) + rm.locals ≤ R.locals) :
    BackS l R p e below s args y len W (fun A a => a = as' ∧ A.U.heap = h ∧ A.cells + rm.cells ≤ R.cells ∧ A.slots + rm.slots ≤ R.slots ∧ Em Z A.U.vm h)
      (fun A _ v B => ∃ L, (Q v B.U.heap L ∧ Em Z B.U.vm B.U.heap) ∧ B.locs = A.locs ++ L ∧ B.cells = A.cells + rm.cells ∧ B.slots = A.slots + rm.slots) :=
  BackS.of_freeW (bytes := bytes) (maxL := maxL) (ret := ret) (E := fun _ _ o t L k n => k = rm.cells ∧ n = rm.slots ∧ ∃ v, o = .returned v ∧ Q v t.heap L ∧ Em Z t.vm t.heap) hM hf hl
    (fun m meth c A a Y hp => have hU : Z.Warmed39 A.U.vm := wtrans hZ Y.warmed
      ⟨by show (Jvm.Cond.and _ .tt).before a A.U = true; rw [Cond.before_and, mv hU wc]; rfl, mv hU wc, mv hU wz, hp.2.2.1, hp.2.2.2.1⟩)
    (fun m meth c A a g mk Y hp => ⟨hp.1, wtrans hZ Y.warmed, hp.2.1, hp.2.2.2.2⟩) (fun _ _ _ _ _ _ _ _ _ => trivial)
    (fun _ _ _ _ ⟨v, L, h1, h2, h3, h4⟩ => ⟨L, _, _, h3, rfl, rfl, v, h1, h2, h4⟩)
    (fun m meth c A a g mk v t L k n Y hp _ _ ⟨e1, e2, v', e3, e4⟩ => by cases e3; subst e1 e2; exact ⟨L, e4, rfl, rfl, rfl⟩)
theorem d_prog_2_method_1_0 : decode prog_2_method_1_code 0 = .ok (.aload_n 0, 1) := by decide +kernel
theorem d_prog_2_method_1_1 : decode prog_2_method_1_code 1 = .ok (.invokespecial 1, 3) := by decide +kernel
theorem d_prog_2_method_1_4 : decode prog_2_method_1_code 4 = .ok (.aload_n 0, 1) := by decide +kernel
theorem d_prog_2_method_1_5 : decode prog_2_method_1_code 5 = .ok (.aconst_null, 1) := by decide +kernel
theorem d_prog_2_method_1_6 : decode prog_2_method_1_code 6 = .ok (.putfield 7, 3) := by decide +kernel
theorem d_prog_2_method_1_9 : decode prog_2_method_1_code 9 = .ok (.return_, 1) := by decide +kernel
theorem pn_0 : plainName "com/example/fixity/fixity/engine/AccountRequest" = true := by first | (simp [plainName, overriddenIn]; done) | decide +kernel
theorem d_jdk_31_method_11_0 : decode jdk_31_method_11_code 0 = .ok (.aload_n 0, 1) := by decide +kernel
theorem d_jdk_31_method_11_1 : decode jdk_31_method_11_code 1 = .ok (.ifnonnull 12, 3) := by decide +kernel
theorem d_jdk_31_method_11_13 : decode jdk_31_method_11_code 13 = .ok (.aload_n 0, 1) := by decide +kernel
theorem d_jdk_31_method_11_14 : decode jdk_31_method_11_code 14 = .ok (.areturn, 1) := by decide +kernel
theorem pn_1 : plainName "java/util/Objects" = true := by first | (simp [plainName, overriddenIn]; done) | decide +kernel
theorem d_jdk_32_method_2_0 : decode jdk_32_method_2_code 0 = .ok (.aload_n 0, 1) := by decide +kernel
theorem d_jdk_32_method_2_1 : decode jdk_32_method_2_code 1 = .ok (.invokespecial 7, 3) := by decide +kernel
theorem d_jdk_32_method_2_4 : decode jdk_32_method_2_code 4 = .ok (.aload_n 0, 1) := by decide +kernel
theorem d_jdk_32_method_2_5 : decode jdk_32_method_2_code 5 = .ok (.aload_n 1, 1) := by decide +kernel
theorem d_jdk_32_method_2_6 : decode jdk_32_method_2_code 6 = .ok (.putfield 13, 3) := by decide +kernel
theorem d_jdk_32_method_2_9 : decode jdk_32_method_2_code 9 = .ok (.return_, 1) := by decide +kernel
theorem pn_2 : plainName "java/util/Optional" = true := by first | (simp [plainName, overriddenIn]; done) | decide +kernel
theorem d_jdk_32_method_4_0 : decode jdk_32_method_4_code 0 = .ok (.aload_n 0, 1) := by decide +kernel
theorem d_jdk_32_method_4_1 : decode jdk_32_method_4_code 1 = .ok (.ifnonnull 9, 3) := by decide +kernel
theorem d_jdk_32_method_4_10 : decode jdk_32_method_4_code 10 = .ok (.new 2, 3) := by decide +kernel
theorem d_jdk_32_method_4_13 : decode jdk_32_method_4_code 13 = .ok (.dup, 1) := by decide +kernel
theorem d_jdk_32_method_4_14 : decode jdk_32_method_4_code 14 = .ok (.aload_n 0, 1) := by decide +kernel
theorem d_jdk_32_method_4_15 : decode jdk_32_method_4_code 15 = .ok (.invokespecial 23, 3) := by decide +kernel
theorem pd_0 : parseMethodDescriptor "(Ljava/lang/Object;)V" = some ⟨[(.object "java/lang/Object")], none⟩ := by decide +kernel
theorem d_jdk_32_method_4_18 : decode jdk_32_method_4_code 18 = .ok (.areturn, 1) := by decide +kernel
theorem d_jdk_32_method_4_4 : decode jdk_32_method_4_code 4 = .ok (.getstatic 1, 3) := by decide +kernel
theorem d_jdk_32_method_4_7 : decode jdk_32_method_4_code 7 = .ok (.goto 11, 3) := by decide +kernel
theorem d_prog_2_method_11_0 : decode prog_2_method_11_code 0 = .ok (.aload_n 0, 1) := by decide +kernel
theorem d_prog_2_method_11_1 : decode prog_2_method_11_code 1 = .ok (.getfield 28, 3) := by decide +kernel
theorem d_prog_2_method_11_4 : decode prog_2_method_11_code 4 = .ok (.invokestatic 63, 3) := by decide +kernel
theorem pd_1 : parseMethodDescriptor "(Ljava/lang/Object;)Ljava/util/Optional;" = some ⟨[(.object "java/lang/Object")], some (.object "java/util/Optional")⟩ := by decide +kernel
theorem d_prog_2_method_11_7 : decode prog_2_method_11_code 7 = .ok (.areturn, 1) := by decide +kernel
theorem d_prog_2_method_10_0 : decode prog_2_method_10_code 0 = .ok (.aload_n 0, 1) := by decide +kernel
theorem d_prog_2_method_10_1 : decode prog_2_method_10_code 1 = .ok (.getfield 7, 3) := by decide +kernel
theorem d_prog_2_method_10_4 : decode prog_2_method_10_code 4 = .ok (.invokestatic 63, 3) := by decide +kernel
theorem d_prog_2_method_10_7 : decode prog_2_method_10_code 7 = .ok (.areturn, 1) := by decide +kernel
theorem d_prog_2_method_13_0 : decode prog_2_method_13_code 0 = .ok (.aload_n 0, 1) := by decide +kernel
theorem d_prog_2_method_13_1 : decode prog_2_method_13_code 1 = .ok (.getfield 47, 3) := by decide +kernel
theorem d_prog_2_method_13_4 : decode prog_2_method_13_code 4 = .ok (.invokestatic 63, 3) := by decide +kernel
theorem d_prog_2_method_13_7 : decode prog_2_method_13_code 7 = .ok (.areturn, 1) := by decide +kernel
theorem d_prog_2_method_12_0 : decode prog_2_method_12_code 0 = .ok (.aload_n 0, 1) := by decide +kernel
theorem d_prog_2_method_12_1 : decode prog_2_method_12_code 1 = .ok (.getfield 37, 3) := by decide +kernel
theorem d_prog_2_method_12_4 : decode prog_2_method_12_code 4 = .ok (.invokestatic 63, 3) := by decide +kernel
theorem d_prog_2_method_12_7 : decode prog_2_method_12_code 7 = .ok (.areturn, 1) := by decide +kernel
theorem d_jdk_32_method_6_0 : decode jdk_32_method_6_code 0 = .ok (.aload_n 0, 1) := by decide +kernel
theorem d_jdk_32_method_6_1 : decode jdk_32_method_6_code 1 = .ok (.getfield 13, 3) := by decide +kernel
theorem d_jdk_32_method_6_4 : decode jdk_32_method_6_code 4 = .ok (.ifnull 7, 3) := by decide +kernel
theorem d_jdk_32_method_6_7 : decode jdk_32_method_6_code 7 = .ok (.iconst 1, 1) := by decide +kernel
theorem d_jdk_32_method_6_8 : decode jdk_32_method_6_code 8 = .ok (.goto 4, 3) := by decide +kernel
theorem d_jdk_32_method_6_12 : decode jdk_32_method_6_code 12 = .ok (.ireturn, 1) := by decide +kernel
theorem d_jdk_32_method_6_11 : decode jdk_32_method_6_code 11 = .ok (.iconst 0, 1) := by decide +kernel
theorem d_jdk_32_method_5_0 : decode jdk_32_method_5_code 0 = .ok (.aload_n 0, 1) := by decide +kernel
theorem d_jdk_32_method_5_1 : decode jdk_32_method_5_code 1 = .ok (.getfield 13, 3) := by decide +kernel
theorem d_jdk_32_method_5_4 : decode jdk_32_method_5_code 4 = .ok (.ifnonnull 13, 3) := by decide +kernel
theorem d_jdk_32_method_5_17 : decode jdk_32_method_5_code 17 = .ok (.aload_n 0, 1) := by decide +kernel
theorem d_jdk_32_method_5_18 : decode jdk_32_method_5_code 18 = .ok (.getfield 13, 3) := by decide +kernel
theorem d_jdk_32_method_5_21 : decode jdk_32_method_5_code 21 = .ok (.areturn, 1) := by decide +kernel
theorem d_jdk_42_method_66_0 : decode jdk_42_method_66_code 0 = .ok (.aload_n 0, 1) := by decide +kernel
theorem d_jdk_42_method_66_1 : decode jdk_42_method_66_code 1 = .ok (.aload_n 1, 1) := by decide +kernel
theorem d_jdk_42_method_66_2 : decode jdk_42_method_66_code 2 = .ok (.if_acmp .ne 5, 3) := by decide +kernel
theorem d_jdk_42_method_66_5 : decode jdk_42_method_66_code 5 = .ok (.iconst 1, 1) := by decide +kernel
theorem d_jdk_42_method_66_6 : decode jdk_42_method_66_code 6 = .ok (.ireturn, 1) := by decide +kernel
theorem pn_3 : plainName "java/lang/String" = true := by first | (simp [plainName, overriddenIn]; done) | decide +kernel
theorem d_jdk_42_method_149_0 : decode jdk_42_method_149_code 0 = .ok (.aload_n 0, 1) := by decide +kernel
theorem d_jdk_42_method_149_1 : decode jdk_42_method_149_code 1 = .ok (.invokespecial 1, 3) := by decide +kernel
theorem d_jdk_42_method_149_4 : decode jdk_42_method_149_code 4 = .ok (.iload_n 3, 1) := by decide +kernel
theorem d_jdk_42_method_149_5 : decode jdk_42_method_149_code 5 = .ok (.ifCond .ne 22, 3) := by decide +kernel
theorem d_jdk_42_method_149_8 : decode jdk_42_method_149_code 8 = .ok (.aload_n 0, 1) := by decide +kernel
theorem d_jdk_42_method_149_9 : decode jdk_42_method_149_code 9 = .ok (.ldc 7, 2) := by decide +kernel
theorem d_jdk_42_method_149_11 : decode jdk_42_method_149_code 11 = .ok (.getfield 9, 3) := by decide +kernel
theorem d_jdk_42_method_149_14 : decode jdk_42_method_149_code 14 = .ok (.putfield 9, 3) := by decide +kernel
theorem d_jdk_42_method_149_17 : decode jdk_42_method_149_code 17 = .ok (.aload_n 0, 1) := by decide +kernel
theorem d_jdk_42_method_149_18 : decode jdk_42_method_149_code 18 = .ok (.ldc 7, 2) := by decide +kernel
theorem d_jdk_42_method_149_20 : decode jdk_42_method_149_code 20 = .ok (.getfield 15, 3) := by decide +kernel
theorem d_jdk_42_method_149_23 : decode jdk_42_method_149_code 23 = .ok (.putfield 15, 3) := by decide +kernel
theorem d_jdk_42_method_149_26 : decode jdk_42_method_149_code 26 = .ok (.return_, 1) := by decide +kernel
theorem d_jdk_42_method_3_0 : decode jdk_42_method_3_code 0 = .ok (.aload_n 0, 1) := by decide +kernel
theorem d_jdk_42_method_3_1 : decode jdk_42_method_3_code 1 = .ok (.aload_n 1, 1) := by decide +kernel
theorem d_jdk_42_method_3_2 : decode jdk_42_method_3_code 2 = .ok (.iconst 0, 1) := by decide +kernel
theorem d_jdk_42_method_3_3 : decode jdk_42_method_3_code 3 = .ok (.aload_n 1, 1) := by decide +kernel
theorem d_jdk_42_method_3_4 : decode jdk_42_method_3_code 4 = .ok (.arraylength, 1) := by decide +kernel
theorem d_jdk_42_method_3_5 : decode jdk_42_method_3_code 5 = .ok (.aconst_null, 1) := by decide +kernel
theorem d_jdk_42_method_3_6 : decode jdk_42_method_3_code 6 = .ok (.invokespecial 27, 3) := by decide +kernel
theorem pd_2 : parseMethodDescriptor "([CIILjava/lang/Void;)V" = some ⟨[(.array .char), .int, .int, (.object "java/lang/Void")], none⟩ := by decide +kernel
theorem d_jdk_42_method_3_9 : decode jdk_42_method_3_code 9 = .ok (.return_, 1) := by decide +kernel
theorem d_prog_2_method_4_0 : decode prog_2_method_4_code 0 = .ok (.aload_n 0, 1) := by decide +kernel
theorem d_prog_2_method_4_1 : decode prog_2_method_4_code 1 = .ok (.aload_n 1, 1) := by decide +kernel
theorem d_prog_2_method_4_2 : decode prog_2_method_4_code 2 = .ok (.ldc 26, 2) := by decide +kernel
theorem d_prog_2_method_4_4 : decode prog_2_method_4_code 4 = .ok (.invokestatic 15, 3) := by decide +kernel
theorem pd_3 : parseMethodDescriptor "(Ljava/lang/Object;Ljava/lang/String;)Ljava/lang/Object;" = some ⟨[(.object "java/lang/Object"), (.object "java/lang/String")], some (.object "java/lang/Object")⟩ := by decide +kernel
theorem d_prog_2_method_4_7 : decode prog_2_method_4_code 7 = .ok (.checkcast 21, 3) := by decide +kernel
theorem d_prog_2_method_4_10 : decode prog_2_method_4_code 10 = .ok (.putfield 28, 3) := by decide +kernel
theorem d_prog_2_method_4_13 : decode prog_2_method_4_code 13 = .ok (.aload_n 0, 1) := by decide +kernel
theorem d_prog_2_method_4_14 : decode prog_2_method_4_code 14 = .ok (.areturn, 1) := by decide +kernel
theorem d_method_3_0 : decode method_3_code 0 = .ok (.iload_n 0, 1) := by decide +kernel
theorem d_method_3_1 : decode method_3_code 1 = .ok (.sipush 255, 3) := by decide +kernel
theorem d_method_3_4 : decode method_3_code 4 = .ok (.iand, 1) := by decide +kernel
theorem d_method_3_5 : decode method_3_code 5 = .ok (.i2c, 1) := by decide +kernel
theorem d_method_3_6 : decode method_3_code 6 = .ok (.istore_n 2, 1) := by decide +kernel
theorem d_method_3_7 : decode method_3_code 7 = .ok (.iload_n 0, 1) := by decide +kernel
theorem d_method_3_8 : decode method_3_code 8 = .ok (.bipush 8, 2) := by decide +kernel
theorem d_method_3_10 : decode method_3_code 10 = .ok (.iushr, 1) := by decide +kernel
theorem d_method_3_11 : decode method_3_code 11 = .ok (.sipush 255, 3) := by decide +kernel
theorem d_method_3_14 : decode method_3_code 14 = .ok (.iand, 1) := by decide +kernel
theorem d_method_3_15 : decode method_3_code 15 = .ok (.i2c, 1) := by decide +kernel
theorem d_method_3_16 : decode method_3_code 16 = .ok (.istore_n 3, 1) := by decide +kernel
theorem d_method_3_17 : decode method_3_code 17 = .ok (.iload_n 0, 1) := by decide +kernel
theorem d_method_3_18 : decode method_3_code 18 = .ok (.bipush 16, 2) := by decide +kernel
theorem d_method_3_20 : decode method_3_code 20 = .ok (.iushr, 1) := by decide +kernel
theorem d_method_3_21 : decode method_3_code 21 = .ok (.sipush 255, 3) := by decide +kernel
theorem d_method_3_24 : decode method_3_code 24 = .ok (.iand, 1) := by decide +kernel
theorem d_method_3_25 : decode method_3_code 25 = .ok (.i2c, 1) := by decide +kernel
theorem d_method_3_26 : decode method_3_code 26 = .ok (.istore 4, 2) := by decide +kernel
theorem d_method_3_28 : decode method_3_code 28 = .ok (.iload_n 1, 1) := by decide +kernel
theorem d_method_3_29 : decode method_3_code 29 = .ok (.ifCond .ne 14, 3) := by decide +kernel
theorem d_method_3_32 : decode method_3_code 32 = .ok (.new 33, 3) := by decide +kernel
theorem d_method_3_35 : decode method_3_code 35 = .ok (.dup, 1) := by decide +kernel
theorem d_method_3_36 : decode method_3_code 36 = .ok (.iconst 0, 1) := by decide +kernel
theorem d_method_3_37 : decode method_3_code 37 = .ok (.newarray .char, 2) := by decide +kernel
theorem d_method_3_39 : decode method_3_code 39 = .ok (.invokespecial 48, 3) := by decide +kernel
theorem pd_4 : parseMethodDescriptor "([C)V" = some ⟨[(.array .char)], none⟩ := by decide +kernel
theorem d_method_3_42 : decode method_3_code 42 = .ok (.areturn, 1) := by decide +kernel
theorem d_method_3_43 : decode method_3_code 43 = .ok (.iload_n 1, 1) := by decide +kernel
theorem d_method_3_44 : decode method_3_code 44 = .ok (.iconst 1, 1) := by decide +kernel
theorem d_method_3_45 : decode method_3_code 45 = .ok (.if_icmp .ne 18, 3) := by decide +kernel
theorem d_method_3_48 : decode method_3_code 48 = .ok (.new 33, 3) := by decide +kernel
theorem d_method_3_51 : decode method_3_code 51 = .ok (.dup, 1) := by decide +kernel
theorem d_method_3_52 : decode method_3_code 52 = .ok (.iconst 1, 1) := by decide +kernel
theorem d_method_3_53 : decode method_3_code 53 = .ok (.newarray .char, 2) := by decide +kernel
theorem d_method_3_55 : decode method_3_code 55 = .ok (.dup, 1) := by decide +kernel
theorem d_method_3_56 : decode method_3_code 56 = .ok (.iconst 0, 1) := by decide +kernel
theorem d_method_3_57 : decode method_3_code 57 = .ok (.iload_n 2, 1) := by decide +kernel
theorem d_method_3_58 : decode method_3_code 58 = .ok (.castore, 1) := by decide +kernel
theorem d_method_3_59 : decode method_3_code 59 = .ok (.invokespecial 48, 3) := by decide +kernel
theorem d_method_3_62 : decode method_3_code 62 = .ok (.areturn, 1) := by decide +kernel
theorem d_method_3_63 : decode method_3_code 63 = .ok (.iload_n 1, 1) := by decide +kernel
theorem d_method_3_64 : decode method_3_code 64 = .ok (.iconst 2, 1) := by decide +kernel
theorem d_method_3_65 : decode method_3_code 65 = .ok (.if_icmp .ne 22, 3) := by decide +kernel
theorem d_method_3_68 : decode method_3_code 68 = .ok (.new 33, 3) := by decide +kernel
theorem d_method_3_71 : decode method_3_code 71 = .ok (.dup, 1) := by decide +kernel
theorem d_method_3_72 : decode method_3_code 72 = .ok (.iconst 2, 1) := by decide +kernel
theorem d_method_3_73 : decode method_3_code 73 = .ok (.newarray .char, 2) := by decide +kernel
theorem d_method_3_75 : decode method_3_code 75 = .ok (.dup, 1) := by decide +kernel
theorem d_method_3_76 : decode method_3_code 76 = .ok (.iconst 0, 1) := by decide +kernel
theorem d_method_3_77 : decode method_3_code 77 = .ok (.iload_n 2, 1) := by decide +kernel
theorem d_method_3_78 : decode method_3_code 78 = .ok (.castore, 1) := by decide +kernel
theorem d_method_3_79 : decode method_3_code 79 = .ok (.dup, 1) := by decide +kernel
theorem d_method_3_80 : decode method_3_code 80 = .ok (.iconst 1, 1) := by decide +kernel
theorem d_method_3_81 : decode method_3_code 81 = .ok (.iload_n 3, 1) := by decide +kernel
theorem d_method_3_82 : decode method_3_code 82 = .ok (.castore, 1) := by decide +kernel
theorem d_method_3_83 : decode method_3_code 83 = .ok (.invokespecial 48, 3) := by decide +kernel
theorem d_method_3_86 : decode method_3_code 86 = .ok (.areturn, 1) := by decide +kernel
theorem d_method_3_87 : decode method_3_code 87 = .ok (.new 33, 3) := by decide +kernel
theorem d_method_3_90 : decode method_3_code 90 = .ok (.dup, 1) := by decide +kernel
theorem d_method_3_91 : decode method_3_code 91 = .ok (.iconst 3, 1) := by decide +kernel
theorem d_method_3_92 : decode method_3_code 92 = .ok (.newarray .char, 2) := by decide +kernel
theorem d_method_3_94 : decode method_3_code 94 = .ok (.dup, 1) := by decide +kernel
theorem d_method_3_95 : decode method_3_code 95 = .ok (.iconst 0, 1) := by decide +kernel
theorem d_method_3_96 : decode method_3_code 96 = .ok (.iload_n 2, 1) := by decide +kernel
theorem d_method_3_97 : decode method_3_code 97 = .ok (.castore, 1) := by decide +kernel
theorem d_method_3_98 : decode method_3_code 98 = .ok (.dup, 1) := by decide +kernel
theorem d_method_3_99 : decode method_3_code 99 = .ok (.iconst 1, 1) := by decide +kernel
theorem d_method_3_100 : decode method_3_code 100 = .ok (.iload_n 3, 1) := by decide +kernel
theorem d_method_3_101 : decode method_3_code 101 = .ok (.castore, 1) := by decide +kernel
theorem d_method_3_102 : decode method_3_code 102 = .ok (.dup, 1) := by decide +kernel
theorem d_method_3_103 : decode method_3_code 103 = .ok (.iconst 2, 1) := by decide +kernel
theorem d_method_3_104 : decode method_3_code 104 = .ok (.iload 4, 2) := by decide +kernel
theorem d_method_3_106 : decode method_3_code 106 = .ok (.castore, 1) := by decide +kernel
theorem d_method_3_107 : decode method_3_code 107 = .ok (.invokespecial 48, 3) := by decide +kernel
theorem d_method_3_110 : decode method_3_code 110 = .ok (.areturn, 1) := by decide +kernel
theorem pn_4 : plainName "com/example/fixity/fixity/engine/AccountRequestRolePinLaw" = true := by first | (simp [plainName, overriddenIn]; done) | decide +kernel
theorem pd_5 : parseMethodDescriptor "(II)Ljava/lang/String;" = some ⟨[.int, .int], some (.object "java/lang/String")⟩ := by decide +kernel
theorem pd_6 : parseMethodDescriptor "()V" = some ⟨[], none⟩ := by decide +kernel
theorem pd_7 : parseMethodDescriptor "()Ljava/util/Optional;" = some ⟨[], some (.object "java/util/Optional")⟩ := by decide +kernel
theorem pd_8 : parseMethodDescriptor "()Z" = some ⟨[], some .boolean⟩ := by decide +kernel
theorem pd_9 : parseMethodDescriptor "(Ljava/lang/String;)Lcom/example/fixity/fixity/engine/AccountRequest;" = some ⟨[(.object "java/lang/String")], some (.object "com/example/fixity/fixity/engine/AccountRequest")⟩ := by decide +kernel
theorem pd_10 : parseMethodDescriptor "()Ljava/lang/Object;" = some ⟨[], some (.object "java/lang/Object")⟩ := by decide +kernel
theorem pd_11 : parseMethodDescriptor "(Ljava/lang/Object;)Z" = some ⟨[(.object "java/lang/Object")], some .boolean⟩ := by decide +kernel
def QInit (Z : State) (a : Addr) (h0 : Heap) (n0 : Nat) (v : Option Value) (h : Heap) (L : List Loc) : Prop := v = none ∧ Fr n0 L ∧ Keep h0 h [a] ∧ Fld Z h a "com/example/fixity/fixity/engine/AccountRequest" "unreadable" "Ljava/lang/String;" .null ∧ Fld Z h a "com/example/fixity/fixity/engine/AccountRequest" "role" "Ljava/lang/String;" .null ∧ Fld Z h a "com/example/fixity/fixity/engine/AccountRequest" "disabled" "Ljava/lang/Boolean;" .null ∧ Fld Z h a "com/example/fixity/fixity/engine/AccountRequest" "workflowRoles" "Ljava/util/List;" .null
theorem ef_Init (m : MethodId) (a : Addr) : entryFrame m #[(.ref a)] 1 = mkF m 0 #[.val (.ref a)] [] := by first | (simp [entryFrame, mkF, argsToLocals, Value.category]; done) | rfl | (rfl)
set_option maxRecDepth 65536 in
set_option maxHeartbeats 40000000 in
theorem rmInit (l : Launch) (Z : State) (a0 : Array Value) (hw : ∀ d ∈ tables_1, d.before a0 Z = true) (ws : List Jvm.Cond) (a : Addr) (h0 : Heap) (n0 : Nat) (O : Old Z n0 h0) (E : Exa Z h0 a "com/example/fixity/fixity/engine/AccountRequest") (F_unreadable : Fld Z h0 a "com/example/fixity/fixity/engine/AccountRequest" "unreadable" "Ljava/lang/String;" .null) (F_role : Fld Z h0 a "com/example/fixity/fixity/engine/AccountRequest" "role" "Ljava/lang/String;" .null) (F_disabled : Fld Z h0 a "com/example/fixity/fixity/engine/AccountRequest" "disabled" "Ljava/lang/Boolean;" .null) (F_workflowRoles : Fld Z h0 a "com/example/fixity/fixity/engine/AccountRequest" "workflowRoles" "Ljava/util/List;" .null) (ga : n0 ≤ a) :
    MetFree l (⟨"com/example/fixity/fixity/engine/AccountRequest", "<init>", "()V"⟩ : MethodName) (head1 (Jvm.Cond.code (⟨"com/example/fixity/fixity/engine/AccountRequest", "<init>", "()V"⟩ : MethodName) prog_2_method_1_code 1 none :: ws) ({ frames := 1, cells := 0, slots := 0, locals := 12 } : Room)) (fun as_ U => as_ = #[(.ref a)] ∧ Z.Warmed39 U.vm ∧ U.heap = h0) (fun _ _ _ _ _ => True) (fun _ U oo_ U' => ∃ vv_ LL_, oo_ = .returned vv_ ∧ QInit Z a h0 n0 vv_ U'.heap LL_ ∧ FrameEnd U oo_ U' LL_ ({ frames := 1, cells := 0, slots := 0, locals := 12 } : Room).cells ({ frames := 1, cells := 0, slots := 0, locals := 12 } : Room).slots) := by
  refine MetFree.of_bodySF (plainFor_of_name pn_0) hisR ?_
  intro p e s m args below meth c s₁ Bd hml0 hP hK
  obtain ⟨rfl, hZ, hh⟩ := hP
  have hx := Bd.exec
  have hby := Bd.bytes
  have hml : c.maxLocals = 1 := hml0
  have hown : s.vm.findClass "com/example/fixity/fixity/engine/AccountRequest" = some m.cls := findClass_of_methodNamed Bd.named
  have hnm := (name_of_methodNamed Bd.named Bd.method).1
  have X0 : Stand p l e ({ frames := 1, cells := 0, slots := 0, locals := 12 } : Room) s m #[(.ref a)] below meth c s₁ [] 0 0 := Stand.of_body Bd
  have e0 : s₁.heap = h0 := by rw [← hh, Bd.state]; rfl
  have N := Fr.nil n0
  have K : Keep h0 h0 [a] := Keep.refl h0 _
  refine own_go (B := s₁.setTop (mkF m 0 #[.val (.ref a)] [])) (fun t k => castTop (ef_Init m a) k) ?_
  refine own_abs (fun P hfin => ?_)
  refine own_go (B := s₁.setTop (mkF m 1 #[.val (.ref a)] [(.ref a)])) (fun t k => ?_) ?_
  · show Steps p.tables e below (s₁.setTop (mkF m 0 #[.val (.ref a)] [])) _
    refine XS.aloadN X0.here hx rfl (hb hby d_prog_2_method_1_0) rfl rfl ?_
    show Steps p.tables e below (s₁.setTop (mkF m 1 #[.val (.ref a)] [(.ref a)])) _
    exact k
  obtain ⟨T1, X1, e1, st1⟩ := initO X0 hx hZ hown (hw _ (List.mem_of_getElem? (i := 43) rfl)) (hw _ (List.mem_of_getElem? (i := 16) rfl)) (hw _ (List.mem_of_getElem? (i := 17) rfl)) e0 (g := (mkF m 1 #[.val (.ref a)] [(.ref a)])) rfl (by rw [hml]; rfl) rfl (hb hby d_prog_2_method_1_1) (by decide) (W := 0) (by show 2 * 0 + _ ≤ _; exact Nat.le_of_eq rfl) (by decide)
  refine own_go (B := T1.setTop (mkF m 4 #[.val (.ref a)] [])) st1 ?_
  refine own_go (B := T1.setTop (mkF m 6 #[.val (.ref a)] [.null, (.ref a)])) (fun t k => ?_) ?_
  · show Steps p.tables e below (T1.setTop (mkF m 4 #[.val (.ref a)] [])) _
    refine XS.aloadN X1.here hx rfl (hb hby d_prog_2_method_1_4) rfl rfl ?_
    show Steps p.tables e below (T1.setTop (mkF m 5 #[.val (.ref a)] [(.ref a)])) _
    refine XS.aconstNull X1.here hx rfl (hb hby d_prog_2_method_1_5) ?_
    show Steps p.tables e below (T1.setTop (mkF m 6 #[.val (.ref a)] [.null, (.ref a)])) _
    exact k
  obtain ⟨T2, h2, X2, e2, W2, st2⟩ := putF X1 hx hZ hown (host := "") (Or.inl (hw _ (List.mem_of_getElem? (i := 44) rfl))) Via.refl e1 F_unreadable E (Or.inr ⟨(hw _ (List.mem_of_getElem? (i := 45) rfl)), rfl, hnm⟩) (hw _ (List.mem_of_getElem? (i := 38) rfl)) (ty := (.object "java/lang/String")) (by decide) rfl rfl (g := (mkF m 6 #[.val (.ref a)] [.null, (.ref a)])) rfl rfl (hb hby d_prog_2_method_1_6)
  have Fw2 := F_unreadable.same W2
  replace E := E.wr W2
  clear F_unreadable
  replace F_role := F_role.other W2 (Or.inr (slot_ne (Or.inl (hw _ (List.mem_of_getElem? (i := 52) rfl))) (Or.inr (hw _ (List.mem_of_getElem? (i := 45) rfl))) (by decide) (t := (.object "java/lang/String")) (t' := (.object "java/lang/String")) (by decide) (by decide)))
  replace F_disabled := F_disabled.other W2 (Or.inr (slot_ne (Or.inl (hw _ (List.mem_of_getElem? (i := 104) rfl))) (Or.inr (hw _ (List.mem_of_getElem? (i := 45) rfl))) (by decide) (t := (.object "java/lang/Boolean")) (t' := (.object "java/lang/String")) (by decide) (by decide)))
  replace F_workflowRoles := F_workflowRoles.other W2 (Or.inr (slot_ne (Or.inl (hw _ (List.mem_of_getElem? (i := 111) rfl))) (Or.inr (hw _ (List.mem_of_getElem? (i := 45) rfl))) (by decide) (t := (.object "java/util/List")) (t' := (.object "java/lang/String")) (by decide) (by decide)))
  replace O := O.wr W2 ga
  replace K := K.wr W2 (Or.inl (List.mem_of_getElem? (i := 0) rfl))
  replace N := Fr.snoc X2 N ga
  refine own_go (B := T2.setTop (mkF m 9 #[.val (.ref a)] [])) st2 ?_
  obtain ⟨fs, hr, hrun, hended, hW, hsame⟩ := X2.leave (v := none) (fun _ => rfl)
  refine ⟨_, _, X2.returnOut hx Bd.returns (hb hby d_prog_2_method_1_9) hr, hfin _ _ ⟨hrun, hended, _, _, rfl, ?_, ⟨_, rfl⟩, hW, hsame.mono (by decide) (by decide)⟩⟩
  show QInit Z a h0 n0 _ T2.heap _
  rw [e2]
  exact ⟨rfl, N, K, Fw2, F_role, F_disabled, F_workflowRoles⟩
def QRnn (Z : State) (o : Addr) (mm : Addr) (h0 : Heap) (n0 : Nat) (v : Option Value) (h : Heap) (L : List Loc) : Prop := v = some (.ref o) ∧ Fr n0 L ∧ h = h0
theorem ef_Rnn (m : MethodId) (o : Addr) (mm : Addr) : entryFrame m #[(.ref o), (.ref mm)] 2 = mkF m 0 #[.val (.ref o), .val (.ref mm)] [] := by first | (simp [entryFrame, mkF, argsToLocals, Value.category]; done) | rfl | (rfl)
set_option maxRecDepth 65536 in
set_option maxHeartbeats 40000000 in
theorem rmRnn (l : Launch) (Z : State) (a0 : Array Value) (hw : ∀ d ∈ tables_1, d.before a0 Z = true) (ws : List Jvm.Cond) (o : Addr) (mm : Addr) (h0 : Heap) (n0 : Nat) (O : Old Z n0 h0)  :
    MetFree l (⟨"java/util/Objects", "requireNonNull", "(Ljava/lang/Object;Ljava/lang/String;)Ljava/lang/Object;"⟩ : MethodName) (head1 (Jvm.Cond.code (⟨"java/util/Objects", "requireNonNull", "(Ljava/lang/Object;Ljava/lang/String;)Ljava/lang/Object;"⟩ : MethodName) jdk_31_method_11_code 2 (some (.object "java/lang/Object")) :: ws) ({ frames := 0, cells := 0, slots := 0, locals := 0 } : Room)) (fun as_ U => as_ = #[(.ref o), (.ref mm)] ∧ Z.Warmed39 U.vm ∧ U.heap = h0) (fun _ _ _ _ _ => True) (fun _ U oo_ U' => ∃ vv_ LL_, oo_ = .returned vv_ ∧ QRnn Z o mm h0 n0 vv_ U'.heap LL_ ∧ FrameEnd U oo_ U' LL_ ({ frames := 0, cells := 0, slots := 0, locals := 0 } : Room).cells ({ frames := 0, cells := 0, slots := 0, locals := 0 } : Room).slots) := by
  refine MetFree.of_bodySF (plainFor_of_name pn_1) hisR ?_
  intro p e s m args below meth c s₁ Bd hml0 hP hK
  obtain ⟨rfl, hZ, hh⟩ := hP
  have hx := Bd.exec
  have hby := Bd.bytes
  have hml : c.maxLocals = 2 := hml0
  have hown : s.vm.findClass "java/util/Objects" = some m.cls := findClass_of_methodNamed Bd.named
  have hnm := (name_of_methodNamed Bd.named Bd.method).1
  have X0 : Stand p l e ({ frames := 0, cells := 0, slots := 0, locals := 0 } : Room) s m #[(.ref o), (.ref mm)] below meth c s₁ [] 0 0 := Stand.of_body Bd
  have e0 : s₁.heap = h0 := by rw [← hh, Bd.state]; rfl
  have N := Fr.nil n0
  have K : Keep h0 h0 [] := Keep.refl h0 _
  refine own_go (B := s₁.setTop (mkF m 0 #[.val (.ref o), .val (.ref mm)] [])) (fun t k => castTop (ef_Rnn m o mm) k) ?_
  refine own_abs (fun P hfin => ?_)
  refine own_go (B := s₁.setTop (mkF m 14 #[.val (.ref o), .val (.ref mm)] [(.ref o)])) (fun t k => ?_) ?_
  · show Steps p.tables e below (s₁.setTop (mkF m 0 #[.val (.ref o), .val (.ref mm)] [])) _
    refine XS.aloadN X0.here hx rfl (hb hby d_jdk_31_method_11_0) rfl rfl ?_
    show Steps p.tables e below (s₁.setTop (mkF m 1 #[.val (.ref o), .val (.ref mm)] [(.ref o)])) _
    refine XT.ifnonnullYes X0.here hx rfl (pc0 := 1) (pc' := 13) rfl (hb hby d_jdk_31_method_11_1) rfl (by decide) (by decide) ?_
    show Steps p.tables e below (s₁.setTop (mkF m 13 #[.val (.ref o), .val (.ref mm)] [])) _
    refine XS.aloadN X0.here hx rfl (hb hby d_jdk_31_method_11_13) rfl rfl ?_
    show Steps p.tables e below (s₁.setTop (mkF m 14 #[.val (.ref o), .val (.ref mm)] [(.ref o)])) _
    exact k
  obtain ⟨fs, hr, hrun, hended, hW, hsame⟩ := X0.leave (v := some (.ref o)) (fun h => by rw [Bd.returns] at h; cases h)
  refine ⟨_, _, own_retA X0 hx rfl Bd.returns rfl (hb hby d_jdk_31_method_11_14) hr, hfin _ _ ⟨hrun, hended, _, _, rfl, ?_, ⟨_, rfl⟩, hW, hsame.mono (by decide) (by decide)⟩⟩
  show QRnn Z o mm h0 n0 _ s₁.heap _
  exact ⟨rfl, N, e0⟩
def QOptI (Z : State) (a : Addr) (o : Addr) (h0 : Heap) (n0 : Nat) (v : Option Value) (h : Heap) (L : List Loc) : Prop := v = none ∧ Fr n0 L ∧ Keep h0 h [a] ∧ Fld Z h a "java/util/Optional" "value" "Ljava/lang/Object;" (.ref o)
theorem ef_OptI (m : MethodId) (a : Addr) (o : Addr) : entryFrame m #[(.ref a), (.ref o)] 2 = mkF m 0 #[.val (.ref a), .val (.ref o)] [] := by first | (simp [entryFrame, mkF, argsToLocals, Value.category]; done) | rfl | (rfl)
set_option maxRecDepth 65536 in
set_option maxHeartbeats 40000000 in
theorem rmOptI (l : Launch) (Z : State) (a0 : Array Value) (hw : ∀ d ∈ tables_1, d.before a0 Z = true) (ws : List Jvm.Cond) (a : Addr) (o : Addr) (h0 : Heap) (n0 : Nat) (O : Old Z n0 h0) (E : Exa Z h0 a "java/util/Optional") (F : Fld Z h0 a "java/util/Optional" "value" "Ljava/lang/Object;" .null) (ga : n0 ≤ a) :
    MetFree l (⟨"java/util/Optional", "<init>", "(Ljava/lang/Object;)V"⟩ : MethodName) (head1 (Jvm.Cond.code (⟨"java/util/Optional", "<init>", "(Ljava/lang/Object;)V"⟩ : MethodName) jdk_32_method_2_code 2 none :: ws) ({ frames := 1, cells := 0, slots := 0, locals := 12 } : Room)) (fun as_ U => as_ = #[(.ref a), (.ref o)] ∧ Z.Warmed39 U.vm ∧ U.heap = h0) (fun _ _ _ _ _ => True) (fun _ U oo_ U' => ∃ vv_ LL_, oo_ = .returned vv_ ∧ QOptI Z a o h0 n0 vv_ U'.heap LL_ ∧ FrameEnd U oo_ U' LL_ ({ frames := 1, cells := 0, slots := 0, locals := 12 } : Room).cells ({ frames := 1, cells := 0, slots := 0, locals := 12 } : Room).slots) := by
  refine MetFree.of_bodySF (plainFor_of_name pn_2) hisR ?_
  intro p e s m args below meth c s₁ Bd hml0 hP hK
  obtain ⟨rfl, hZ, hh⟩ := hP
  have hx := Bd.exec
  have hby := Bd.bytes
  have hml : c.maxLocals = 2 := hml0
  have hown : s.vm.findClass "java/util/Optional" = some m.cls := findClass_of_methodNamed Bd.named
  have hnm := (name_of_methodNamed Bd.named Bd.method).1
  have X0 : Stand p l e ({ frames := 1, cells := 0, slots := 0, locals := 12 } : Room) s m #[(.ref a), (.ref o)] below meth c s₁ [] 0 0 := Stand.of_body Bd
  have e0 : s₁.heap = h0 := by rw [← hh, Bd.state]; rfl
  have N := Fr.nil n0
  have K : Keep h0 h0 [a] := Keep.refl h0 _
  refine own_go (B := s₁.setTop (mkF m 0 #[.val (.ref a), .val (.ref o)] [])) (fun t k => castTop (ef_OptI m a o) k) ?_
  refine own_abs (fun P hfin => ?_)
  refine own_go (B := s₁.setTop (mkF m 1 #[.val (.ref a), .val (.ref o)] [(.ref a)])) (fun t k => ?_) ?_
  · show Steps p.tables e below (s₁.setTop (mkF m 0 #[.val (.ref a), .val (.ref o)] [])) _
    refine XS.aloadN X0.here hx rfl (hb hby d_jdk_32_method_2_0) rfl rfl ?_
    show Steps p.tables e below (s₁.setTop (mkF m 1 #[.val (.ref a), .val (.ref o)] [(.ref a)])) _
    exact k
  obtain ⟨T1, X1, e1, st1⟩ := initO X0 hx hZ hown (hw _ (List.mem_of_getElem? (i := 82) rfl)) (hw _ (List.mem_of_getElem? (i := 16) rfl)) (hw _ (List.mem_of_getElem? (i := 17) rfl)) e0 (g := (mkF m 1 #[.val (.ref a), .val (.ref o)] [(.ref a)])) rfl (by rw [hml]; rfl) rfl (hb hby d_jdk_32_method_2_1) (by decide) (W := 0) (by show 2 * 0 + _ ≤ _; exact Nat.le_of_eq rfl) (by decide)
  refine own_go (B := T1.setTop (mkF m 4 #[.val (.ref a), .val (.ref o)] [])) st1 ?_
  refine own_go (B := T1.setTop (mkF m 6 #[.val (.ref a), .val (.ref o)] [(.ref o), (.ref a)])) (fun t k => ?_) ?_
  · show Steps p.tables e below (T1.setTop (mkF m 4 #[.val (.ref a), .val (.ref o)] [])) _
    refine XS.aloadN X1.here hx rfl (hb hby d_jdk_32_method_2_4) rfl rfl ?_
    show Steps p.tables e below (T1.setTop (mkF m 5 #[.val (.ref a), .val (.ref o)] [(.ref a)])) _
    refine XS.aloadN X1.here hx rfl (hb hby d_jdk_32_method_2_5) rfl rfl ?_
    show Steps p.tables e below (T1.setTop (mkF m 6 #[.val (.ref a), .val (.ref o)] [(.ref o), (.ref a)])) _
    exact k
  obtain ⟨T2, h2, X2, e2, W2, st2⟩ := putF X1 hx hZ hown (host := "") (Or.inl (hw _ (List.mem_of_getElem? (i := 63) rfl))) Via.refl e1 F E (Or.inr ⟨(hw _ (List.mem_of_getElem? (i := 64) rfl)), rfl, hnm⟩) (hw _ (List.mem_of_getElem? (i := 77) rfl)) (ty := (.object "java/lang/Object")) (by decide) rfl rfl (g := (mkF m 6 #[.val (.ref a), .val (.ref o)] [(.ref o), (.ref a)])) rfl rfl (hb hby d_jdk_32_method_2_6)
  have Fw2 := F.same W2
  replace E := E.wr W2
  clear F
  replace O := O.wr W2 ga
  replace K := K.wr W2 (Or.inl (List.mem_of_getElem? (i := 0) rfl))
  replace N := Fr.snoc X2 N ga
  refine own_go (B := T2.setTop (mkF m 9 #[.val (.ref a), .val (.ref o)] [])) st2 ?_
  obtain ⟨fs, hr, hrun, hended, hW, hsame⟩ := X2.leave (v := none) (fun _ => rfl)
  refine ⟨_, _, X2.returnOut hx Bd.returns (hb hby d_jdk_32_method_2_9) hr, hfin _ _ ⟨hrun, hended, _, _, rfl, ?_, ⟨_, rfl⟩, hW, hsame.mono (by decide) (by decide)⟩⟩
  show QOptI Z a o h0 n0 _ T2.heap _
  rw [e2]
  exact ⟨rfl, N, K, Fw2⟩
def QOfN1 (Z : State) (o : Addr) (h0 : Heap) (n0 : Nat) (v : Option Value) (h : Heap) (L : List Loc) : Prop := ∃ r : Addr, v = some (.ref r) ∧ Fr n0 L ∧ Keep h0 h [] ∧ h0.size ≤ r ∧ Exa Z h r "java/util/Optional" ∧ Fld Z h r "java/util/Optional" "value" "Ljava/lang/Object;" (.ref o)
theorem ef_OfN1 (m : MethodId) (o : Addr) : entryFrame m #[(.ref o)] 1 = mkF m 0 #[.val (.ref o)] [] := by first | (simp [entryFrame, mkF, argsToLocals, Value.category]; done) | rfl | (rfl)
set_option maxRecDepth 65536 in
set_option maxHeartbeats 40000000 in
theorem rmOfN1 (l : Launch) (Z : State) (a0 : Array Value) (hw : ∀ d ∈ tables_1, d.before a0 Z = true) (ws : List Jvm.Cond) (o : Addr) (h0 : Heap) (n0 : Nat) (O : Old Z n0 h0)  :
    MetFree l (⟨"java/util/Optional", "ofNullable", "(Ljava/lang/Object;)Ljava/util/Optional;"⟩ : MethodName) (head1 (Jvm.Cond.code (⟨"java/util/Optional", "ofNullable", "(Ljava/lang/Object;)Ljava/util/Optional;"⟩ : MethodName) jdk_32_method_4_code 1 (some (.object "java/util/Optional")) :: ws) ({ frames := 2, cells := 1, slots := 1, locals := 26 } : Room)) (fun as_ U => as_ = #[(.ref o)] ∧ Z.Warmed39 U.vm ∧ U.heap = h0) (fun _ _ _ _ _ => True) (fun _ U oo_ U' => ∃ vv_ LL_, oo_ = .returned vv_ ∧ QOfN1 Z o h0 n0 vv_ U'.heap LL_ ∧ FrameEnd U oo_ U' LL_ ({ frames := 2, cells := 1, slots := 1, locals := 26 } : Room).cells ({ frames := 2, cells := 1, slots := 1, locals := 26 } : Room).slots) := by
  refine MetFree.of_bodySF (plainFor_of_name pn_2) hisR ?_
  intro p e s m args below meth c s₁ Bd hml0 hP hK
  obtain ⟨rfl, hZ, hh⟩ := hP
  have hx := Bd.exec
  have hby := Bd.bytes
  have hml : c.maxLocals = 1 := hml0
  have hown : s.vm.findClass "java/util/Optional" = some m.cls := findClass_of_methodNamed Bd.named
  have hnm := (name_of_methodNamed Bd.named Bd.method).1
  have X0 : Stand p l e ({ frames := 2, cells := 1, slots := 1, locals := 26 } : Room) s m #[(.ref o)] below meth c s₁ [] 0 0 := Stand.of_body Bd
  have e0 : s₁.heap = h0 := by rw [← hh, Bd.state]; rfl
  have N := Fr.nil n0
  have K : Keep h0 h0 [] := Keep.refl h0 _
  refine own_go (B := s₁.setTop (mkF m 0 #[.val (.ref o)] [])) (fun t k => castTop (ef_OfN1 m o) k) ?_
  refine own_abs (fun P hfin => ?_)
  refine own_go (B := s₁.setTop (mkF m 10 #[.val (.ref o)] [])) (fun t k => ?_) ?_
  · show Steps p.tables e below (s₁.setTop (mkF m 0 #[.val (.ref o)] [])) _
    refine XS.aloadN X0.here hx rfl (hb hby d_jdk_32_method_4_0) rfl rfl ?_
    show Steps p.tables e below (s₁.setTop (mkF m 1 #[.val (.ref o)] [(.ref o)])) _
    refine XT.ifnonnullYes X0.here hx rfl (pc0 := 1) (pc' := 10) rfl (hb hby d_jdk_32_method_4_1) rfl (by decide) (by decide) ?_
    show Steps p.tables e below (s₁.setTop (mkF m 10 #[.val (.ref o)] [])) _
    exact k
  obtain ⟨T1, h1, X1, e1, E1, A1, D1, -, st1⟩ := newO X0 hx hZ hown (hw _ (List.mem_of_getElem? (i := 76) rfl)) (hw _ (List.mem_of_getElem? (i := 77) rfl)) (hw _ (List.mem_of_getElem? (i := 55) rfl)) e0 (g := (mkF m 10 #[.val (.ref o)] [])) rfl (hb hby d_jdk_32_method_4_10) (by decide) (by decide)
  obtain ⟨b1, g1⟩ : ∃ z, z = h0.size := ⟨_, rfl⟩
  rw [← g1] at A1 D1 st1
  have g_b1 : n0 ≤ b1 := Nat.le_trans (own_oldsz O) (Nat.le_of_eq g1.symm)
  have s_b1 : h0.size ≤ b1 := Nat.le_trans K.1 (Nat.le_of_eq g1.symm)
  replace O := O.ext E1
  replace K := K.ext E1
  have F1_value : Fld Z h1 b1 "java/util/Optional" "value" "Ljava/lang/Object;" .null := D1 (Or.inr (hw _ (List.mem_of_getElem? (i := 64) rfl))) (ty := (.object "java/lang/Object")) (by decide)
  refine own_go (B := T1.setTop (mkF m 13 #[.val (.ref o)] [(.ref b1)])) st1 ?_
  refine own_go (B := T1.setTop (mkF m 15 #[.val (.ref o)] [(.ref o), (.ref b1), (.ref b1)])) (fun t k => ?_) ?_
  · show Steps p.tables e below (T1.setTop (mkF m 13 #[.val (.ref o)] [(.ref b1)])) _
    refine XS.dup X1.here hx rfl (hb hby d_jdk_32_method_4_13) rfl rfl ?_
    show Steps p.tables e below (T1.setTop (mkF m 14 #[.val (.ref o)] [(.ref b1), (.ref b1)])) _
    refine XS.aloadN X1.here hx rfl (hb hby d_jdk_32_method_4_14) rfl rfl ?_
    show Steps p.tables e below (T1.setTop (mkF m 15 #[.val (.ref o)] [(.ref o), (.ref b1), (.ref b1)])) _
    exact k
  -- pc 15: java/util/Optional.<init>
  obtain ⟨_, _, ⟨T2, L2, k2, n2⟩, -, X2, ⟨Lc2, hQ2, l2, y2, z2⟩, st2⟩ := X1.specialBack hx (y := (⟨"java/util/Optional", "<init>", "(Ljava/lang/Object;)V"⟩ : MethodName)) rfl hown (mvT hZ (hw _ (List.mem_of_getElem? (i := 78) rfl))) (mvT hZ (hw _ (List.mem_of_getElem? (i := 79) rfl))) (mvT hZ (hw _ (List.mem_of_getElem? (i := 81) rfl))) (by decide) (backOf (W := 1) (rmOptI l Z a0 hw [] b1 o h1 n0 O A1 F1_value g_b1) hZ (hw _ (List.mem_of_getElem? (i := 81) rfl)) (hw _ (List.mem_of_getElem? (i := 55) rfl)) (by decide) (by decide)) (g := (mkF m 15 #[.val (.ref o)] [(.ref o), (.ref b1), (.ref b1)])) rfl (by rw [hml]; rfl) (Steps.refl _) (a := b1) (argsL := [(.ref o)]) (rest := [(.ref b1)]) (lenOf pd_0 rfl) rfl (by show 2 * 0 + _ ≤ _; exact Nat.le_of_eq rfl) (hb hby d_jdk_32_method_4_15) (fun _ hWm => ⟨rfl, e1, (by decide : 1 + 0 ≤ _), (by decide : 1 + 0 ≤ _)⟩)
  dsimp only [Pt.U, Pt.locs, Pt.cells, Pt.slots] at X2 l2 y2 z2 st2 hQ2
  subst l2 y2 z2
  obtain ⟨rfl, Nq2, Kq2, Gq2_0⟩ := hQ2
  replace N := Fr.app N Nq2
  replace A1 := A1.keep Kq2
  clear F1_value
  replace O := O.keep Kq2 (allS g_b1 all0)
  replace K := K.trans Kq2 (allS (Or.inr s_b1) all0)
  refine own_go (B := T2.setTop (mkF m 18 #[.val (.ref o)] [(.ref b1)])) (fun t k => st2.trans k) ?_
  obtain ⟨fs, hr, hrun, hended, hW, hsame⟩ := X2.leave (v := some (.ref b1)) (fun h => by rw [Bd.returns] at h; cases h)
  refine ⟨_, _, own_retA X2 hx rfl Bd.returns rfl (hb hby d_jdk_32_method_4_18) hr, hfin _ _ ⟨hrun, hended, _, _, rfl, ?_, ⟨_, rfl⟩, hW, hsame.mono (by decide) (by decide)⟩⟩
  show QOfN1 Z o h0 n0 _ T2.heap _
  exact ⟨b1, rfl, N, K, s_b1, A1, Gq2_0⟩
def QOfN0 (Z : State) (wE : Addr) (h0 : Heap) (n0 : Nat) (v : Option Value) (h : Heap) (L : List Loc) : Prop := v = some (.ref wE) ∧ Fr n0 L ∧ h = h0
theorem ef_OfN0 (m : MethodId)  : entryFrame m #[.null] 1 = mkF m 0 #[.val .null] [] := by first | (simp [entryFrame, mkF, argsToLocals, Value.category]; done) | rfl | (rfl)
set_option maxRecDepth 65536 in
set_option maxHeartbeats 40000000 in
theorem rmOfN0 (l : Launch) (Z : State) (a0 : Array Value) (hw : ∀ d ∈ tables_1, d.before a0 Z = true) (ws : List Jvm.Cond) (wE : Addr) (h0 : Heap) (n0 : Nat) (O : Old Z n0 h0) (S_E : Sta Z Z.heap "java/util/Optional" "EMPTY" "Ljava/util/Optional;" (.ref wE)) :
    MetFree l (⟨"java/util/Optional", "ofNullable", "(Ljava/lang/Object;)Ljava/util/Optional;"⟩ : MethodName) (head1 (Jvm.Cond.code (⟨"java/util/Optional", "ofNullable", "(Ljava/lang/Object;)Ljava/util/Optional;"⟩ : MethodName) jdk_32_method_4_code 1 (some (.object "java/util/Optional")) :: ws) ({ frames := 0, cells := 0, slots := 0, locals := 0 } : Room)) (fun as_ U => as_ = #[.null] ∧ Z.Warmed39 U.vm ∧ U.heap = h0) (fun _ _ _ _ _ => True) (fun _ U oo_ U' => ∃ vv_ LL_, oo_ = .returned vv_ ∧ QOfN0 Z wE h0 n0 vv_ U'.heap LL_ ∧ FrameEnd U oo_ U' LL_ ({ frames := 0, cells := 0, slots := 0, locals := 0 } : Room).cells ({ frames := 0, cells := 0, slots := 0, locals := 0 } : Room).slots) := by
  refine MetFree.of_bodySF (plainFor_of_name pn_2) hisR ?_
  intro p e s m args below meth c s₁ Bd hml0 hP hK
  obtain ⟨rfl, hZ, hh⟩ := hP
  have hx := Bd.exec
  have hby := Bd.bytes
  have hml : c.maxLocals = 1 := hml0
  have hown : s.vm.findClass "java/util/Optional" = some m.cls := findClass_of_methodNamed Bd.named
  have hnm := (name_of_methodNamed Bd.named Bd.method).1
  have X0 : Stand p l e ({ frames := 0, cells := 0, slots := 0, locals := 0 } : Room) s m #[.null] below meth c s₁ [] 0 0 := Stand.of_body Bd
  have e0 : s₁.heap = h0 := by rw [← hh, Bd.state]; rfl
  have N := Fr.nil n0
  have K : Keep h0 h0 [] := Keep.refl h0 _
  refine own_go (B := s₁.setTop (mkF m 0 #[.val .null] [])) (fun t k => castTop (ef_OfN0 m ) k) ?_
  refine own_abs (fun P hfin => ?_)
  refine own_go (B := s₁.setTop (mkF m 4 #[.val .null] [])) (fun t k => ?_) ?_
  · show Steps p.tables e below (s₁.setTop (mkF m 0 #[.val .null] [])) _
    refine XS.aloadN X0.here hx rfl (hb hby d_jdk_32_method_4_0) rfl rfl ?_
    show Steps p.tables e below (s₁.setTop (mkF m 1 #[.val .null] [.null])) _
    refine XT.ifnonnullNo X0.here hx rfl (hb hby d_jdk_32_method_4_1) rfl ?_
    show Steps p.tables e below (s₁.setTop (mkF m 4 #[.val .null] [])) _
    exact k
  obtain ⟨T1, X1, e1, st1⟩ := getS2 X0 hx hZ hown (host := "") (Or.inl (hw _ (List.mem_of_getElem? (i := 57) rfl))) Via.refl e0 (S_E.ext O.2) (g := (mkF m 4 #[.val .null] [])) rfl (hb hby d_jdk_32_method_4_4)
  refine own_go (B := T1.setTop (mkF m 7 #[.val .null] [(.ref wE)])) st1 ?_
  refine own_go (B := T1.setTop (mkF m 18 #[.val .null] [(.ref wE)])) (fun t k => ?_) ?_
  · show Steps p.tables e below (T1.setTop (mkF m 7 #[.val .null] [(.ref wE)])) _
    refine XS.goto X1.here hx rfl (pc0 := 7) (pc' := 18) rfl (hb hby d_jdk_32_method_4_7) (by decide) (by decide) ?_
    show Steps p.tables e below (T1.setTop (mkF m 18 #[.val .null] [(.ref wE)])) _
    exact k
  obtain ⟨fs, hr, hrun, hended, hW, hsame⟩ := X1.leave (v := some (.ref wE)) (fun h => by rw [Bd.returns] at h; cases h)
  refine ⟨_, _, own_retA X1 hx rfl Bd.returns rfl (hb hby d_jdk_32_method_4_18) hr, hfin _ _ ⟨hrun, hended, _, _, rfl, ?_, ⟨_, rfl⟩, hW, hsame.mono (by decide) (by decide)⟩⟩
  show QOfN0 Z wE h0 n0 _ T1.heap _
  exact ⟨rfl, N, e1⟩
def QG1role (Z : State) (a : Addr) (o : Addr) (h0 : Heap) (n0 : Nat) (v : Option Value) (h : Heap) (L : List Loc) : Prop := ∃ r : Addr, v = some (.ref r) ∧ Fr n0 L ∧ Keep h0 h [] ∧ h0.size ≤ r ∧ Exa Z h r "java/util/Optional" ∧ Fld Z h r "java/util/Optional" "value" "Ljava/lang/Object;" (.ref o)
theorem ef_G1role (m : MethodId) (a : Addr) : entryFrame m #[(.ref a)] 1 = mkF m 0 #[.val (.ref a)] [] := by first | (simp [entryFrame, mkF, argsToLocals, Value.category]; done) | rfl | (rfl)
set_option maxRecDepth 65536 in
set_option maxHeartbeats 40000000 in
theorem rmG1role (l : Launch) (Z : State) (a0 : Array Value) (hw : ∀ d ∈ tables_1, d.before a0 Z = true) (ws : List Jvm.Cond) (a : Addr) (o : Addr) (h0 : Heap) (n0 : Nat) (O : Old Z n0 h0) (F : Fld Z h0 a "com/example/fixity/fixity/engine/AccountRequest" "role" "Ljava/lang/String;" (.ref o)) :
    MetFree l (⟨"com/example/fixity/fixity/engine/AccountRequest", "role", "()Ljava/util/Optional;"⟩ : MethodName) (head1 (Jvm.Cond.code (⟨"com/example/fixity/fixity/engine/AccountRequest", "role", "()Ljava/util/Optional;"⟩ : MethodName) prog_2_method_11_code 1 (some (.object "java/util/Optional")) :: ws) ({ frames := 3, cells := 1, slots := 1, locals := 38 } : Room)) (fun as_ U => as_ = #[(.ref a)] ∧ Z.Warmed39 U.vm ∧ U.heap = h0) (fun _ _ _ _ _ => True) (fun _ U oo_ U' => ∃ vv_ LL_, oo_ = .returned vv_ ∧ QG1role Z a o h0 n0 vv_ U'.heap LL_ ∧ FrameEnd U oo_ U' LL_ ({ frames := 3, cells := 1, slots := 1, locals := 38 } : Room).cells ({ frames := 3, cells := 1, slots := 1, locals := 38 } : Room).slots) := by
  refine MetFree.of_bodySF (plainFor_of_name pn_0) hisR ?_
  intro p e s m args below meth c s₁ Bd hml0 hP hK
  obtain ⟨rfl, hZ, hh⟩ := hP
  have hx := Bd.exec
  have hby := Bd.bytes
  have hml : c.maxLocals = 1 := hml0
  have hown : s.vm.findClass "com/example/fixity/fixity/engine/AccountRequest" = some m.cls := findClass_of_methodNamed Bd.named
  have hnm := (name_of_methodNamed Bd.named Bd.method).1
  have X0 : Stand p l e ({ frames := 3, cells := 1, slots := 1, locals := 38 } : Room) s m #[(.ref a)] below meth c s₁ [] 0 0 := Stand.of_body Bd
  have e0 : s₁.heap = h0 := by rw [← hh, Bd.state]; rfl
  have N := Fr.nil n0
  have K : Keep h0 h0 [] := Keep.refl h0 _
  refine own_go (B := s₁.setTop (mkF m 0 #[.val (.ref a)] [])) (fun t k => castTop (ef_G1role m a) k) ?_
  refine own_abs (fun P hfin => ?_)
  refine own_go (B := s₁.setTop (mkF m 1 #[.val (.ref a)] [(.ref a)])) (fun t k => ?_) ?_
  · show Steps p.tables e below (s₁.setTop (mkF m 0 #[.val (.ref a)] [])) _
    refine XS.aloadN X0.here hx rfl (hb hby d_prog_2_method_11_0) rfl rfl ?_
    show Steps p.tables e below (s₁.setTop (mkF m 1 #[.val (.ref a)] [(.ref a)])) _
    exact k
  obtain ⟨T1, X1, e1, st1⟩ := getF X0 hx hZ hown (host := "") (Or.inl (hw _ (List.mem_of_getElem? (i := 51) rfl))) Via.refl e0 F (g := (mkF m 1 #[.val (.ref a)] [(.ref a)])) rfl rfl (hb hby d_prog_2_method_11_1)
  refine own_go (B := T1.setTop (mkF m 4 #[.val (.ref a)] [(.ref o)])) st1 ?_
  -- pc 4: java/util/Optional.ofNullable
  obtain ⟨_, _, ⟨T2, L2, k2, n2⟩, -, X2, ⟨Lc2, hQ2, l2, y2, z2⟩, st2⟩ := Jvm.LawKit.callS X1 hx (y := (⟨"java/util/Optional", "ofNullable", "(Ljava/lang/Object;)Ljava/util/Optional;"⟩ : MethodName)) hown (mvT hZ (hw _ (List.mem_of_getElem? (i := 53) rfl))) (mvT hZ (hw _ (List.mem_of_getElem? (i := 54) rfl))) (mvT hZ (hw _ (List.mem_of_getElem? (i := 55) rfl))) (mvT hZ (hw _ (List.mem_of_getElem? (i := 56) rfl))) (by decide) (backOf (W := 0) (rmOfN1 l Z a0 hw [] o h0 n0 O ) hZ (hw _ (List.mem_of_getElem? (i := 56) rfl)) (hw _ (List.mem_of_getElem? (i := 55) rfl)) (by decide) (by decide)) (g := (mkF m 4 #[.val (.ref a)] [(.ref o)])) rfl (by rw [hml]; rfl) (argsL := [(.ref o)]) (rest := []) (lenOf pd_1 rfl) rfl (by show 2 * 0 + _ ≤ _; exact Nat.le_of_eq rfl) (hb hby d_prog_2_method_11_4) (fun _ hWm => ⟨rfl, e1, (by decide : 0 + 1 ≤ _), (by decide : 0 + 1 ≤ _)⟩)
  dsimp only [Pt.U, Pt.locs, Pt.cells, Pt.slots] at X2 l2 y2 z2 st2 hQ2
  subst l2 y2 z2
  obtain ⟨r2, rfl, Nq2, Kq2, fq2_r, Gq2_0, Gq2_1⟩ := hQ2
  replace N := Fr.app N Nq2
  have lt_a_r2 : a < r2 := Nat.lt_of_lt_of_le F.lt fq2_r
  have g_r2 : n0 ≤ r2 := Nat.le_trans (own_oldsz O) fq2_r
  have s_r2 : h0.size ≤ r2 := Nat.le_trans K.1 fq2_r
  replace F := F.keep Kq2 nin0
  replace O := O.keep Kq2 all0
  replace K := K.trans Kq2 all0
  refine own_go (B := T2.setTop (mkF m 7 #[.val (.ref a)] [(.ref r2)])) st2 ?_
  obtain ⟨fs, hr, hrun, hended, hW, hsame⟩ := X2.leave (v := some (.ref r2)) (fun h => by rw [Bd.returns] at h; cases h)
  refine ⟨_, _, own_retA X2 hx rfl Bd.returns rfl (hb hby d_prog_2_method_11_7) hr, hfin _ _ ⟨hrun, hended, _, _, rfl, ?_, ⟨_, rfl⟩, hW, hsame.mono (by decide) (by decide)⟩⟩
  show QG1role Z a o h0 n0 _ T2.heap _
  exact ⟨r2, rfl, N, K, s_r2, Gq2_0, Gq2_1⟩
def QG0unreadable (Z : State) (a : Addr) (wE : Addr) (h0 : Heap) (n0 : Nat) (v : Option Value) (h : Heap) (L : List Loc) : Prop := v = some (.ref wE) ∧ Fr n0 L ∧ h = h0
theorem ef_G0unreadable (m : MethodId) (a : Addr) : entryFrame m #[(.ref a)] 1 = mkF m 0 #[.val (.ref a)] [] := by first | (simp [entryFrame, mkF, argsToLocals, Value.category]; done) | rfl | (rfl)
set_option maxRecDepth 65536 in
set_option maxHeartbeats 40000000 in
theorem rmG0unreadable (l : Launch) (Z : State) (a0 : Array Value) (hw : ∀ d ∈ tables_1, d.before a0 Z = true) (ws : List Jvm.Cond) (a : Addr) (wE : Addr) (h0 : Heap) (n0 : Nat) (O : Old Z n0 h0) (F : Fld Z h0 a "com/example/fixity/fixity/engine/AccountRequest" "unreadable" "Ljava/lang/String;" .null) (S_E : Sta Z Z.heap "java/util/Optional" "EMPTY" "Ljava/util/Optional;" (.ref wE)) :
    MetFree l (⟨"com/example/fixity/fixity/engine/AccountRequest", "unreadable", "()Ljava/util/Optional;"⟩ : MethodName) (head1 (Jvm.Cond.code (⟨"com/example/fixity/fixity/engine/AccountRequest", "unreadable", "()Ljava/util/Optional;"⟩ : MethodName) prog_2_method_10_code 1 (some (.object "java/util/Optional")) :: ws) ({ frames := 1, cells := 0, slots := 0, locals := 12 } : Room)) (fun as_ U => as_ = #[(.ref a)] ∧ Z.Warmed39 U.vm ∧ U.heap = h0) (fun _ _ _ _ _ => True) (fun _ U oo_ U' => ∃ vv_ LL_, oo_ = .returned vv_ ∧ QG0unreadable Z a wE h0 n0 vv_ U'.heap LL_ ∧ FrameEnd U oo_ U' LL_ ({ frames := 1, cells := 0, slots := 0, locals := 12 } : Room).cells ({ frames := 1, cells := 0, slots := 0, locals := 12 } : Room).slots) := by
  refine MetFree.of_bodySF (plainFor_of_name pn_0) hisR ?_
  intro p e s m args below meth c s₁ Bd hml0 hP hK
  obtain ⟨rfl, hZ, hh⟩ := hP
  have hx := Bd.exec
  have hby := Bd.bytes
  have hml : c.maxLocals = 1 := hml0
  have hown : s.vm.findClass "com/example/fixity/fixity/engine/AccountRequest" = some m.cls := findClass_of_methodNamed Bd.named
  have hnm := (name_of_methodNamed Bd.named Bd.method).1
  have X0 : Stand p l e ({ frames := 1, cells := 0, slots := 0, locals := 12 } : Room) s m #[(.ref a)] below meth c s₁ [] 0 0 := Stand.of_body Bd
  have e0 : s₁.heap = h0 := by rw [← hh, Bd.state]; rfl
  have N := Fr.nil n0
  have K : Keep h0 h0 [] := Keep.refl h0 _
  refine own_go (B := s₁.setTop (mkF m 0 #[.val (.ref a)] [])) (fun t k => castTop (ef_G0unreadable m a) k) ?_
  refine own_abs (fun P hfin => ?_)
  refine own_go (B := s₁.setTop (mkF m 1 #[.val (.ref a)] [(.ref a)])) (fun t k => ?_) ?_
  · show Steps p.tables e below (s₁.setTop (mkF m 0 #[.val (.ref a)] [])) _
    refine XS.aloadN X0.here hx rfl (hb hby d_prog_2_method_10_0) rfl rfl ?_
    show Steps p.tables e below (s₁.setTop (mkF m 1 #[.val (.ref a)] [(.ref a)])) _
    exact k
  obtain ⟨T1, X1, e1, st1⟩ := getF X0 hx hZ hown (host := "") (Or.inl (hw _ (List.mem_of_getElem? (i := 44) rfl))) Via.refl e0 F (g := (mkF m 1 #[.val (.ref a)] [(.ref a)])) rfl rfl (hb hby d_prog_2_method_10_1)
  refine own_go (B := T1.setTop (mkF m 4 #[.val (.ref a)] [.null])) st1 ?_
  -- pc 4: java/util/Optional.ofNullable
  obtain ⟨_, _, ⟨T2, L2, k2, n2⟩, -, X2, ⟨Lc2, hQ2, l2, y2, z2⟩, st2⟩ := Jvm.LawKit.callS X1 hx (y := (⟨"java/util/Optional", "ofNullable", "(Ljava/lang/Object;)Ljava/util/Optional;"⟩ : MethodName)) hown (mvT hZ (hw _ (List.mem_of_getElem? (i := 53) rfl))) (mvT hZ (hw _ (List.mem_of_getElem? (i := 54) rfl))) (mvT hZ (hw _ (List.mem_of_getElem? (i := 55) rfl))) (mvT hZ (hw _ (List.mem_of_getElem? (i := 56) rfl))) (by decide) (backOf (W := 0) (rmOfN0 l Z a0 hw [] wE h0 n0 O S_E) hZ (hw _ (List.mem_of_getElem? (i := 56) rfl)) (hw _ (List.mem_of_getElem? (i := 55) rfl)) (by decide) (by decide)) (g := (mkF m 4 #[.val (.ref a)] [.null])) rfl (by rw [hml]; rfl) (argsL := [.null]) (rest := []) (lenOf pd_1 rfl) rfl (by show 2 * 0 + _ ≤ _; exact Nat.le_of_eq rfl) (hb hby d_prog_2_method_10_4) (fun _ hWm => ⟨rfl, e1, (by decide : 0 + 0 ≤ _), (by decide : 0 + 0 ≤ _)⟩)
  dsimp only [Pt.U, Pt.locs, Pt.cells, Pt.slots] at X2 l2 y2 z2 st2 hQ2
  subst l2 y2 z2
  obtain ⟨rfl, Nq2, Kq2⟩ := hQ2
  replace N := Fr.app N Nq2
  refine own_go (B := T2.setTop (mkF m 7 #[.val (.ref a)] [(.ref wE)])) st2 ?_
  obtain ⟨fs, hr, hrun, hended, hW, hsame⟩ := X2.leave (v := some (.ref wE)) (fun h => by rw [Bd.returns] at h; cases h)
  refine ⟨_, _, own_retA X2 hx rfl Bd.returns rfl (hb hby d_prog_2_method_10_7) hr, hfin _ _ ⟨hrun, hended, _, _, rfl, ?_, ⟨_, rfl⟩, hW, hsame.mono (by decide) (by decide)⟩⟩
  show QG0unreadable Z a wE h0 n0 _ T2.heap _
  exact ⟨rfl, N, Kq2⟩
def QG0role (Z : State) (a : Addr) (wE : Addr) (h0 : Heap) (n0 : Nat) (v : Option Value) (h : Heap) (L : List Loc) : Prop := v = some (.ref wE) ∧ Fr n0 L ∧ h = h0
theorem ef_G0role (m : MethodId) (a : Addr) : entryFrame m #[(.ref a)] 1 = mkF m 0 #[.val (.ref a)] [] := by first | (simp [entryFrame, mkF, argsToLocals, Value.category]; done) | rfl | (rfl)
set_option maxRecDepth 65536 in
set_option maxHeartbeats 40000000 in
theorem rmG0role (l : Launch) (Z : State) (a0 : Array Value) (hw : ∀ d ∈ tables_1, d.before a0 Z = true) (ws : List Jvm.Cond) (a : Addr) (wE : Addr) (h0 : Heap) (n0 : Nat) (O : Old Z n0 h0) (F : Fld Z h0 a "com/example/fixity/fixity/engine/AccountRequest" "role" "Ljava/lang/String;" .null) (S_E : Sta Z Z.heap "java/util/Optional" "EMPTY" "Ljava/util/Optional;" (.ref wE)) :
    MetFree l (⟨"com/example/fixity/fixity/engine/AccountRequest", "role", "()Ljava/util/Optional;"⟩ : MethodName) (head1 (Jvm.Cond.code (⟨"com/example/fixity/fixity/engine/AccountRequest", "role", "()Ljava/util/Optional;"⟩ : MethodName) prog_2_method_11_code 1 (some (.object "java/util/Optional")) :: ws) ({ frames := 1, cells := 0, slots := 0, locals := 12 } : Room)) (fun as_ U => as_ = #[(.ref a)] ∧ Z.Warmed39 U.vm ∧ U.heap = h0) (fun _ _ _ _ _ => True) (fun _ U oo_ U' => ∃ vv_ LL_, oo_ = .returned vv_ ∧ QG0role Z a wE h0 n0 vv_ U'.heap LL_ ∧ FrameEnd U oo_ U' LL_ ({ frames := 1, cells := 0, slots := 0, locals := 12 } : Room).cells ({ frames := 1, cells := 0, slots := 0, locals := 12 } : Room).slots) := by
  refine MetFree.of_bodySF (plainFor_of_name pn_0) hisR ?_
  intro p e s m args below meth c s₁ Bd hml0 hP hK
  obtain ⟨rfl, hZ, hh⟩ := hP
  have hx := Bd.exec
  have hby := Bd.bytes
  have hml : c.maxLocals = 1 := hml0
  have hown : s.vm.findClass "com/example/fixity/fixity/engine/AccountRequest" = some m.cls := findClass_of_methodNamed Bd.named
  have hnm := (name_of_methodNamed Bd.named Bd.method).1
  have X0 : Stand p l e ({ frames := 1, cells := 0, slots := 0, locals := 12 } : Room) s m #[(.ref a)] below meth c s₁ [] 0 0 := Stand.of_body Bd
  have e0 : s₁.heap = h0 := by rw [← hh, Bd.state]; rfl
  have N := Fr.nil n0
  have K : Keep h0 h0 [] := Keep.refl h0 _
  refine own_go (B := s₁.setTop (mkF m 0 #[.val (.ref a)] [])) (fun t k => castTop (ef_G0role m a) k) ?_
  refine own_abs (fun P hfin => ?_)
  refine own_go (B := s₁.setTop (mkF m 1 #[.val (.ref a)] [(.ref a)])) (fun t k => ?_) ?_
  · show Steps p.tables e below (s₁.setTop (mkF m 0 #[.val (.ref a)] [])) _
    refine XS.aloadN X0.here hx rfl (hb hby d_prog_2_method_11_0) rfl rfl ?_
    show Steps p.tables e below (s₁.setTop (mkF m 1 #[.val (.ref a)] [(.ref a)])) _
    exact k
  obtain ⟨T1, X1, e1, st1⟩ := getF X0 hx hZ hown (host := "") (Or.inl (hw _ (List.mem_of_getElem? (i := 51) rfl))) Via.refl e0 F (g := (mkF m 1 #[.val (.ref a)] [(.ref a)])) rfl rfl (hb hby d_prog_2_method_11_1)
  refine own_go (B := T1.setTop (mkF m 4 #[.val (.ref a)] [.null])) st1 ?_
  -- pc 4: java/util/Optional.ofNullable
  obtain ⟨_, _, ⟨T2, L2, k2, n2⟩, -, X2, ⟨Lc2, hQ2, l2, y2, z2⟩, st2⟩ := Jvm.LawKit.callS X1 hx (y := (⟨"java/util/Optional", "ofNullable", "(Ljava/lang/Object;)Ljava/util/Optional;"⟩ : MethodName)) hown (mvT hZ (hw _ (List.mem_of_getElem? (i := 53) rfl))) (mvT hZ (hw _ (List.mem_of_getElem? (i := 54) rfl))) (mvT hZ (hw _ (List.mem_of_getElem? (i := 55) rfl))) (mvT hZ (hw _ (List.mem_of_getElem? (i := 56) rfl))) (by decide) (backOf (W := 0) (rmOfN0 l Z a0 hw [] wE h0 n0 O S_E) hZ (hw _ (List.mem_of_getElem? (i := 56) rfl)) (hw _ (List.mem_of_getElem? (i := 55) rfl)) (by decide) (by decide)) (g := (mkF m 4 #[.val (.ref a)] [.null])) rfl (by rw [hml]; rfl) (argsL := [.null]) (rest := []) (lenOf pd_1 rfl) rfl (by show 2 * 0 + _ ≤ _; exact Nat.le_of_eq rfl) (hb hby d_prog_2_method_11_4) (fun _ hWm => ⟨rfl, e1, (by decide : 0 + 0 ≤ _), (by decide : 0 + 0 ≤ _)⟩)
  dsimp only [Pt.U, Pt.locs, Pt.cells, Pt.slots] at X2 l2 y2 z2 st2 hQ2
  subst l2 y2 z2
  obtain ⟨rfl, Nq2, Kq2⟩ := hQ2
  replace N := Fr.app N Nq2
  refine own_go (B := T2.setTop (mkF m 7 #[.val (.ref a)] [(.ref wE)])) st2 ?_
  obtain ⟨fs, hr, hrun, hended, hW, hsame⟩ := X2.leave (v := some (.ref wE)) (fun h => by rw [Bd.returns] at h; cases h)
  refine ⟨_, _, own_retA X2 hx rfl Bd.returns rfl (hb hby d_prog_2_method_11_7) hr, hfin _ _ ⟨hrun, hended, _, _, rfl, ?_, ⟨_, rfl⟩, hW, hsame.mono (by decide) (by decide)⟩⟩
  show QG0role Z a wE h0 n0 _ T2.heap _
  exact ⟨rfl, N, Kq2⟩
def QG0disabled (Z : State) (a : Addr) (wE : Addr) (h0 : Heap) (n0 : Nat) (v : Option Value) (h : Heap) (L : List Loc) : Prop := v = some (.ref wE) ∧ Fr n0 L ∧ h = h0
theorem ef_G0disabled (m : MethodId) (a : Addr) : entryFrame m #[(.ref a)] 1 = mkF m 0 #[.val (.ref a)] [] := by first | (simp [entryFrame, mkF, argsToLocals, Value.category]; done) | rfl | (rfl)
set_option maxRecDepth 65536 in
set_option maxHeartbeats 40000000 in
theorem rmG0disabled (l : Launch) (Z : State) (a0 : Array Value) (hw : ∀ d ∈ tables_1, d.before a0 Z = true) (ws : List Jvm.Cond) (a : Addr) (wE : Addr) (h0 : Heap) (n0 : Nat) (O : Old Z n0 h0) (F : Fld Z h0 a "com/example/fixity/fixity/engine/AccountRequest" "disabled" "Ljava/lang/Boolean;" .null) (S_E : Sta Z Z.heap "java/util/Optional" "EMPTY" "Ljava/util/Optional;" (.ref wE)) :
    MetFree l (⟨"com/example/fixity/fixity/engine/AccountRequest", "disabled", "()Ljava/util/Optional;"⟩ : MethodName) (head1 (Jvm.Cond.code (⟨"com/example/fixity/fixity/engine/AccountRequest", "disabled", "()Ljava/util/Optional;"⟩ : MethodName) prog_2_method_13_code 1 (some (.object "java/util/Optional")) :: ws) ({ frames := 1, cells := 0, slots := 0, locals := 12 } : Room)) (fun as_ U => as_ = #[(.ref a)] ∧ Z.Warmed39 U.vm ∧ U.heap = h0) (fun _ _ _ _ _ => True) (fun _ U oo_ U' => ∃ vv_ LL_, oo_ = .returned vv_ ∧ QG0disabled Z a wE h0 n0 vv_ U'.heap LL_ ∧ FrameEnd U oo_ U' LL_ ({ frames := 1, cells := 0, slots := 0, locals := 12 } : Room).cells ({ frames := 1, cells := 0, slots := 0, locals := 12 } : Room).slots) := by
  refine MetFree.of_bodySF (plainFor_of_name pn_0) hisR ?_
  intro p e s m args below meth c s₁ Bd hml0 hP hK
  obtain ⟨rfl, hZ, hh⟩ := hP
  have hx := Bd.exec
  have hby := Bd.bytes
  have hml : c.maxLocals = 1 := hml0
  have hown : s.vm.findClass "com/example/fixity/fixity/engine/AccountRequest" = some m.cls := findClass_of_methodNamed Bd.named
  have hnm := (name_of_methodNamed Bd.named Bd.method).1
  have X0 : Stand p l e ({ frames := 1, cells := 0, slots := 0, locals := 12 } : Room) s m #[(.ref a)] below meth c s₁ [] 0 0 := Stand.of_body Bd
  have e0 : s₁.heap = h0 := by rw [← hh, Bd.state]; rfl
  have N := Fr.nil n0
  have K : Keep h0 h0 [] := Keep.refl h0 _
  refine own_go (B := s₁.setTop (mkF m 0 #[.val (.ref a)] [])) (fun t k => castTop (ef_G0disabled m a) k) ?_
  refine own_abs (fun P hfin => ?_)
  refine own_go (B := s₁.setTop (mkF m 1 #[.val (.ref a)] [(.ref a)])) (fun t k => ?_) ?_
  · show Steps p.tables e below (s₁.setTop (mkF m 0 #[.val (.ref a)] [])) _
    refine XS.aloadN X0.here hx rfl (hb hby d_prog_2_method_13_0) rfl rfl ?_
    show Steps p.tables e below (s₁.setTop (mkF m 1 #[.val (.ref a)] [(.ref a)])) _
    exact k
  obtain ⟨T1, X1, e1, st1⟩ := getF X0 hx hZ hown (host := "") (Or.inl (hw _ (List.mem_of_getElem? (i := 103) rfl))) Via.refl e0 F (g := (mkF m 1 #[.val (.ref a)] [(.ref a)])) rfl rfl (hb hby d_prog_2_method_13_1)
  refine own_go (B := T1.setTop (mkF m 4 #[.val (.ref a)] [.null])) st1 ?_
  -- pc 4: java/util/Optional.ofNullable
  obtain ⟨_, _, ⟨T2, L2, k2, n2⟩, -, X2, ⟨Lc2, hQ2, l2, y2, z2⟩, st2⟩ := Jvm.LawKit.callS X1 hx (y := (⟨"java/util/Optional", "ofNullable", "(Ljava/lang/Object;)Ljava/util/Optional;"⟩ : MethodName)) hown (mvT hZ (hw _ (List.mem_of_getElem? (i := 53) rfl))) (mvT hZ (hw _ (List.mem_of_getElem? (i := 54) rfl))) (mvT hZ (hw _ (List.mem_of_getElem? (i := 55) rfl))) (mvT hZ (hw _ (List.mem_of_getElem? (i := 56) rfl))) (by decide) (backOf (W := 0) (rmOfN0 l Z a0 hw [] wE h0 n0 O S_E) hZ (hw _ (List.mem_of_getElem? (i := 56) rfl)) (hw _ (List.mem_of_getElem? (i := 55) rfl)) (by decide) (by decide)) (g := (mkF m 4 #[.val (.ref a)] [.null])) rfl (by rw [hml]; rfl) (argsL := [.null]) (rest := []) (lenOf pd_1 rfl) rfl (by show 2 * 0 + _ ≤ _; exact Nat.le_of_eq rfl) (hb hby d_prog_2_method_13_4) (fun _ hWm => ⟨rfl, e1, (by decide : 0 + 0 ≤ _), (by decide : 0 + 0 ≤ _)⟩)
  dsimp only [Pt.U, Pt.locs, Pt.cells, Pt.slots] at X2 l2 y2 z2 st2 hQ2
  subst l2 y2 z2
  obtain ⟨rfl, Nq2, Kq2⟩ := hQ2
  replace N := Fr.app N Nq2
  refine own_go (B := T2.setTop (mkF m 7 #[.val (.ref a)] [(.ref wE)])) st2 ?_
  obtain ⟨fs, hr, hrun, hended, hW, hsame⟩ := X2.leave (v := some (.ref wE)) (fun h => by rw [Bd.returns] at h; cases h)
  refine ⟨_, _, own_retA X2 hx rfl Bd.returns rfl (hb hby d_prog_2_method_13_7) hr, hfin _ _ ⟨hrun, hended, _, _, rfl, ?_, ⟨_, rfl⟩, hW, hsame.mono (by decide) (by decide)⟩⟩
  show QG0disabled Z a wE h0 n0 _ T2.heap _
  exact ⟨rfl, N, Kq2⟩
def QG0workflowRoles (Z : State) (a : Addr) (wE : Addr) (h0 : Heap) (n0 : Nat) (v : Option Value) (h : Heap) (L : List Loc) : Prop := v = some (.ref wE) ∧ Fr n0 L ∧ h = h0
theorem ef_G0workflowRoles (m : MethodId) (a : Addr) : entryFrame m #[(.ref a)] 1 = mkF m 0 #[.val (.ref a)] [] := by first | (simp [entryFrame, mkF, argsToLocals, Value.category]; done) | rfl | (rfl)
set_option maxRecDepth 65536 in
set_option maxHeartbeats 40000000 in
theorem rmG0workflowRoles (l : Launch) (Z : State) (a0 : Array Value) (hw : ∀ d ∈ tables_1, d.before a0 Z = true) (ws : List Jvm.Cond) (a : Addr) (wE : Addr) (h0 : Heap) (n0 : Nat) (O : Old Z n0 h0) (F : Fld Z h0 a "com/example/fixity/fixity/engine/AccountRequest" "workflowRoles" "Ljava/util/List;" .null) (S_E : Sta Z Z.heap "java/util/Optional" "EMPTY" "Ljava/util/Optional;" (.ref wE)) :
    MetFree l (⟨"com/example/fixity/fixity/engine/AccountRequest", "workflowRoles", "()Ljava/util/Optional;"⟩ : MethodName) (head1 (Jvm.Cond.code (⟨"com/example/fixity/fixity/engine/AccountRequest", "workflowRoles", "()Ljava/util/Optional;"⟩ : MethodName) prog_2_method_12_code 1 (some (.object "java/util/Optional")) :: ws) ({ frames := 1, cells := 0, slots := 0, locals := 12 } : Room)) (fun as_ U => as_ = #[(.ref a)] ∧ Z.Warmed39 U.vm ∧ U.heap = h0) (fun _ _ _ _ _ => True) (fun _ U oo_ U' => ∃ vv_ LL_, oo_ = .returned vv_ ∧ QG0workflowRoles Z a wE h0 n0 vv_ U'.heap LL_ ∧ FrameEnd U oo_ U' LL_ ({ frames := 1, cells := 0, slots := 0, locals := 12 } : Room).cells ({ frames := 1, cells := 0, slots := 0, locals := 12 } : Room).slots) := by
  refine MetFree.of_bodySF (plainFor_of_name pn_0) hisR ?_
  intro p e s m args below meth c s₁ Bd hml0 hP hK
  obtain ⟨rfl, hZ, hh⟩ := hP
  have hx := Bd.exec
  have hby := Bd.bytes
  have hml : c.maxLocals = 1 := hml0
  have hown : s.vm.findClass "com/example/fixity/fixity/engine/AccountRequest" = some m.cls := findClass_of_methodNamed Bd.named
  have hnm := (name_of_methodNamed Bd.named Bd.method).1
  have X0 : Stand p l e ({ frames := 1, cells := 0, slots := 0, locals := 12 } : Room) s m #[(.ref a)] below meth c s₁ [] 0 0 := Stand.of_body Bd
  have e0 : s₁.heap = h0 := by rw [← hh, Bd.state]; rfl
  have N := Fr.nil n0
  have K : Keep h0 h0 [] := Keep.refl h0 _
  refine own_go (B := s₁.setTop (mkF m 0 #[.val (.ref a)] [])) (fun t k => castTop (ef_G0workflowRoles m a) k) ?_
  refine own_abs (fun P hfin => ?_)
  refine own_go (B := s₁.setTop (mkF m 1 #[.val (.ref a)] [(.ref a)])) (fun t k => ?_) ?_
  · show Steps p.tables e below (s₁.setTop (mkF m 0 #[.val (.ref a)] [])) _
    refine XS.aloadN X0.here hx rfl (hb hby d_prog_2_method_12_0) rfl rfl ?_
    show Steps p.tables e below (s₁.setTop (mkF m 1 #[.val (.ref a)] [(.ref a)])) _
    exact k
  obtain ⟨T1, X1, e1, st1⟩ := getF X0 hx hZ hown (host := "") (Or.inl (hw _ (List.mem_of_getElem? (i := 110) rfl))) Via.refl e0 F (g := (mkF m 1 #[.val (.ref a)] [(.ref a)])) rfl rfl (hb hby d_prog_2_method_12_1)
  refine own_go (B := T1.setTop (mkF m 4 #[.val (.ref a)] [.null])) st1 ?_
  -- pc 4: java/util/Optional.ofNullable
  obtain ⟨_, _, ⟨T2, L2, k2, n2⟩, -, X2, ⟨Lc2, hQ2, l2, y2, z2⟩, st2⟩ := Jvm.LawKit.callS X1 hx (y := (⟨"java/util/Optional", "ofNullable", "(Ljava/lang/Object;)Ljava/util/Optional;"⟩ : MethodName)) hown (mvT hZ (hw _ (List.mem_of_getElem? (i := 53) rfl))) (mvT hZ (hw _ (List.mem_of_getElem? (i := 54) rfl))) (mvT hZ (hw _ (List.mem_of_getElem? (i := 55) rfl))) (mvT hZ (hw _ (List.mem_of_getElem? (i := 56) rfl))) (by decide) (backOf (W := 0) (rmOfN0 l Z a0 hw [] wE h0 n0 O S_E) hZ (hw _ (List.mem_of_getElem? (i := 56) rfl)) (hw _ (List.mem_of_getElem? (i := 55) rfl)) (by decide) (by decide)) (g := (mkF m 4 #[.val (.ref a)] [.null])) rfl (by rw [hml]; rfl) (argsL := [.null]) (rest := []) (lenOf pd_1 rfl) rfl (by show 2 * 0 + _ ≤ _; exact Nat.le_of_eq rfl) (hb hby d_prog_2_method_12_4) (fun _ hWm => ⟨rfl, e1, (by decide : 0 + 0 ≤ _), (by decide : 0 + 0 ≤ _)⟩)
  dsimp only [Pt.U, Pt.locs, Pt.cells, Pt.slots] at X2 l2 y2 z2 st2 hQ2
  subst l2 y2 z2
  obtain ⟨rfl, Nq2, Kq2⟩ := hQ2
  replace N := Fr.app N Nq2
  refine own_go (B := T2.setTop (mkF m 7 #[.val (.ref a)] [(.ref wE)])) st2 ?_
  obtain ⟨fs, hr, hrun, hended, hW, hsame⟩ := X2.leave (v := some (.ref wE)) (fun h => by rw [Bd.returns] at h; cases h)
  refine ⟨_, _, own_retA X2 hx rfl Bd.returns rfl (hb hby d_prog_2_method_12_7) hr, hfin _ _ ⟨hrun, hended, _, _, rfl, ?_, ⟨_, rfl⟩, hW, hsame.mono (by decide) (by decide)⟩⟩
  show QG0workflowRoles Z a wE h0 n0 _ T2.heap _
  exact ⟨rfl, N, Kq2⟩
def QIP1 (Z : State) (a : Addr) (o : Addr) (h0 : Heap) (n0 : Nat) (v : Option Value) (h : Heap) (L : List Loc) : Prop := v = some (.int (1 : Int32)) ∧ Fr n0 L ∧ h = h0
theorem ef_IP1 (m : MethodId) (a : Addr) : entryFrame m #[(.ref a)] 1 = mkF m 0 #[.val (.ref a)] [] := by first | (simp [entryFrame, mkF, argsToLocals, Value.category]; done) | rfl | (rfl)
set_option maxRecDepth 65536 in
set_option maxHeartbeats 40000000 in
theorem rmIP1 (l : Launch) (Z : State) (a0 : Array Value) (hw : ∀ d ∈ tables_1, d.before a0 Z = true) (ws : List Jvm.Cond) (a : Addr) (o : Addr) (h0 : Heap) (n0 : Nat) (O : Old Z n0 h0) (F : Fld Z h0 a "java/util/Optional" "value" "Ljava/lang/Object;" (.ref o)) :
    MetFree l (⟨"java/util/Optional", "isPresent", "()Z"⟩ : MethodName) (head1 (Jvm.Cond.code (⟨"java/util/Optional", "isPresent", "()Z"⟩ : MethodName) jdk_32_method_6_code 1 (some .boolean) :: ws) ({ frames := 0, cells := 0, slots := 0, locals := 0 } : Room)) (fun as_ U => as_ = #[(.ref a)] ∧ Z.Warmed39 U.vm ∧ U.heap = h0) (fun _ _ _ _ _ => True) (fun _ U oo_ U' => ∃ vv_ LL_, oo_ = .returned vv_ ∧ QIP1 Z a o h0 n0 vv_ U'.heap LL_ ∧ FrameEnd U oo_ U' LL_ ({ frames := 0, cells := 0, slots := 0, locals := 0 } : Room).cells ({ frames := 0, cells := 0, slots := 0, locals := 0 } : Room).slots) := by
  refine MetFree.of_bodySF (plainFor_of_name pn_2) hisR ?_
  intro p e s m args below meth c s₁ Bd hml0 hP hK
  obtain ⟨rfl, hZ, hh⟩ := hP
  have hx := Bd.exec
  have hby := Bd.bytes
  have hml : c.maxLocals = 1 := hml0
  have hown : s.vm.findClass "java/util/Optional" = some m.cls := findClass_of_methodNamed Bd.named
  have hnm := (name_of_methodNamed Bd.named Bd.method).1
  have X0 : Stand p l e ({ frames := 0, cells := 0, slots := 0, locals := 0 } : Room) s m #[(.ref a)] below meth c s₁ [] 0 0 := Stand.of_body Bd
  have e0 : s₁.heap = h0 := by rw [← hh, Bd.state]; rfl
  have N := Fr.nil n0
  have K : Keep h0 h0 [] := Keep.refl h0 _
  refine own_go (B := s₁.setTop (mkF m 0 #[.val (.ref a)] [])) (fun t k => castTop (ef_IP1 m a) k) ?_
  refine own_abs (fun P hfin => ?_)
  refine own_go (B := s₁.setTop (mkF m 1 #[.val (.ref a)] [(.ref a)])) (fun t k => ?_) ?_
  · show Steps p.tables e below (s₁.setTop (mkF m 0 #[.val (.ref a)] [])) _
    refine XS.aloadN X0.here hx rfl (hb hby d_jdk_32_method_6_0) rfl rfl ?_
    show Steps p.tables e below (s₁.setTop (mkF m 1 #[.val (.ref a)] [(.ref a)])) _
    exact k
  obtain ⟨T1, X1, e1, st1⟩ := getF X0 hx hZ hown (host := "") (Or.inl (hw _ (List.mem_of_getElem? (i := 63) rfl))) Via.refl e0 F (g := (mkF m 1 #[.val (.ref a)] [(.ref a)])) rfl rfl (hb hby d_jdk_32_method_6_1)
  refine own_go (B := T1.setTop (mkF m 4 #[.val (.ref a)] [(.ref o)])) st1 ?_
  refine own_go (B := T1.setTop (mkF m 12 #[.val (.ref a)] [(.int (1 : Int32))])) (fun t k => ?_) ?_
  · show Steps p.tables e below (T1.setTop (mkF m 4 #[.val (.ref a)] [(.ref o)])) _
    refine XS.ifnullNo X1.here hx rfl (hb hby d_jdk_32_method_6_4) rfl ?_
    show Steps p.tables e below (T1.setTop (mkF m 7 #[.val (.ref a)] [])) _
    refine XS.iconst X1.here hx rfl (hb hby d_jdk_32_method_6_7) ?_
    show Steps p.tables e below (T1.setTop (mkF m 8 #[.val (.ref a)] [(.int (1 : Int32))])) _
    refine XS.goto X1.here hx rfl (pc0 := 8) (pc' := 12) rfl (hb hby d_jdk_32_method_6_8) (by decide) (by decide) ?_
    show Steps p.tables e below (T1.setTop (mkF m 12 #[.val (.ref a)] [(.int (1 : Int32))])) _
    exact k
  obtain ⟨fs, hr, hrun, hended, hW, hsame⟩ := X1.leave (v := some (.int (1 : Int32))) (fun h => by rw [Bd.returns] at h; cases h)
  refine ⟨_, _, retN X1 hx (t := .boolean) Bd.returns (by simp) (hb hby d_jdk_32_method_6_12) hr, hfin _ _ ⟨hrun, hended, _, _, rfl, ?_, ⟨_, rfl⟩, hW, hsame.mono (by decide) (by decide)⟩⟩
  show QIP1 Z a o h0 n0 _ T1.heap _
  exact ⟨rfl, N, e1⟩
def QIP0 (Z : State) (a : Addr) (h0 : Heap) (n0 : Nat) (v : Option Value) (h : Heap) (L : List Loc) : Prop := v = some (.int (0 : Int32)) ∧ Fr n0 L ∧ h = h0
theorem ef_IP0 (m : MethodId) (a : Addr) : entryFrame m #[(.ref a)] 1 = mkF m 0 #[.val (.ref a)] [] := by first | (simp [entryFrame, mkF, argsToLocals, Value.category]; done) | rfl | (rfl)
set_option maxRecDepth 65536 in
set_option maxHeartbeats 40000000 in
theorem rmIP0 (l : Launch) (Z : State) (a0 : Array Value) (hw : ∀ d ∈ tables_1, d.before a0 Z = true) (ws : List Jvm.Cond) (a : Addr) (h0 : Heap) (n0 : Nat) (O : Old Z n0 h0) (F : Fld Z h0 a "java/util/Optional" "value" "Ljava/lang/Object;" .null) :
    MetFree l (⟨"java/util/Optional", "isPresent", "()Z"⟩ : MethodName) (head1 (Jvm.Cond.code (⟨"java/util/Optional", "isPresent", "()Z"⟩ : MethodName) jdk_32_method_6_code 1 (some .boolean) :: ws) ({ frames := 0, cells := 0, slots := 0, locals := 0 } : Room)) (fun as_ U => as_ = #[(.ref a)] ∧ Z.Warmed39 U.vm ∧ U.heap = h0) (fun _ _ _ _ _ => True) (fun _ U oo_ U' => ∃ vv_ LL_, oo_ = .returned vv_ ∧ QIP0 Z a h0 n0 vv_ U'.heap LL_ ∧ FrameEnd U oo_ U' LL_ ({ frames := 0, cells := 0, slots := 0, locals := 0 } : Room).cells ({ frames := 0, cells := 0, slots := 0, locals := 0 } : Room).slots) := by
  refine MetFree.of_bodySF (plainFor_of_name pn_2) hisR ?_
  intro p e s m args below meth c s₁ Bd hml0 hP hK
  obtain ⟨rfl, hZ, hh⟩ := hP
  have hx := Bd.exec
  have hby := Bd.bytes
  have hml : c.maxLocals = 1 := hml0
  have hown : s.vm.findClass "java/util/Optional" = some m.cls := findClass_of_methodNamed Bd.named
  have hnm := (name_of_methodNamed Bd.named Bd.method).1
  have X0 : Stand p l e ({ frames := 0, cells := 0, slots := 0, locals := 0 } : Room) s m #[(.ref a)] below meth c s₁ [] 0 0 := Stand.of_body Bd
  have e0 : s₁.heap = h0 := by rw [← hh, Bd.state]; rfl
  have N := Fr.nil n0
  have K : Keep h0 h0 [] := Keep.refl h0 _
  refine own_go (B := s₁.setTop (mkF m 0 #[.val (.ref a)] [])) (fun t k => castTop (ef_IP0 m a) k) ?_
  refine own_abs (fun P hfin => ?_)
  refine own_go (B := s₁.setTop (mkF m 1 #[.val (.ref a)] [(.ref a)])) (fun t k => ?_) ?_
  · show Steps p.tables e below (s₁.setTop (mkF m 0 #[.val (.ref a)] [])) _
    refine XS.aloadN X0.here hx rfl (hb hby d_jdk_32_method_6_0) rfl rfl ?_
    show Steps p.tables e below (s₁.setTop (mkF m 1 #[.val (.ref a)] [(.ref a)])) _
    exact k
  obtain ⟨T1, X1, e1, st1⟩ := getF X0 hx hZ hown (host := "") (Or.inl (hw _ (List.mem_of_getElem? (i := 63) rfl))) Via.refl e0 F (g := (mkF m 1 #[.val (.ref a)] [(.ref a)])) rfl rfl (hb hby d_jdk_32_method_6_1)
  refine own_go (B := T1.setTop (mkF m 4 #[.val (.ref a)] [.null])) st1 ?_
  refine own_go (B := T1.setTop (mkF m 12 #[.val (.ref a)] [(.int (0 : Int32))])) (fun t k => ?_) ?_
  · show Steps p.tables e below (T1.setTop (mkF m 4 #[.val (.ref a)] [.null])) _
    refine XS.ifnullYes X1.here hx rfl (pc0 := 4) (pc' := 11) rfl (hb hby d_jdk_32_method_6_4) rfl (by decide) (by decide) ?_
    show Steps p.tables e below (T1.setTop (mkF m 11 #[.val (.ref a)] [])) _
    refine XS.iconst X1.here hx rfl (hb hby d_jdk_32_method_6_11) ?_
    show Steps p.tables e below (T1.setTop (mkF m 12 #[.val (.ref a)] [(.int (0 : Int32))])) _
    exact k
  obtain ⟨fs, hr, hrun, hended, hW, hsame⟩ := X1.leave (v := some (.int (0 : Int32))) (fun h => by rw [Bd.returns] at h; cases h)
  refine ⟨_, _, retN X1 hx (t := .boolean) Bd.returns (by simp) (hb hby d_jdk_32_method_6_12) hr, hfin _ _ ⟨hrun, hended, _, _, rfl, ?_, ⟨_, rfl⟩, hW, hsame.mono (by decide) (by decide)⟩⟩
  show QIP0 Z a h0 n0 _ T1.heap _
  exact ⟨rfl, N, e1⟩
def QOG (Z : State) (a : Addr) (o : Addr) (h0 : Heap) (n0 : Nat) (v : Option Value) (h : Heap) (L : List Loc) : Prop := v = some (.ref o) ∧ Fr n0 L ∧ h = h0
theorem ef_OG (m : MethodId) (a : Addr) : entryFrame m #[(.ref a)] 1 = mkF m 0 #[.val (.ref a)] [] := by first | (simp [entryFrame, mkF, argsToLocals, Value.category]; done) | rfl | (rfl)
set_option maxRecDepth 65536 in
set_option maxHeartbeats 40000000 in
theorem rmOG (l : Launch) (Z : State) (a0 : Array Value) (hw : ∀ d ∈ tables_1, d.before a0 Z = true) (ws : List Jvm.Cond) (a : Addr) (o : Addr) (h0 : Heap) (n0 : Nat) (O : Old Z n0 h0) (F : Fld Z h0 a "java/util/Optional" "value" "Ljava/lang/Object;" (.ref o)) :
    MetFree l (⟨"java/util/Optional", "get", "()Ljava/lang/Object;"⟩ : MethodName) (head1 (Jvm.Cond.code (⟨"java/util/Optional", "get", "()Ljava/lang/Object;"⟩ : MethodName) jdk_32_method_5_code 1 (some (.object "java/lang/Object")) :: ws) ({ frames := 0, cells := 0, slots := 0, locals := 0 } : Room)) (fun as_ U => as_ = #[(.ref a)] ∧ Z.Warmed39 U.vm ∧ U.heap = h0) (fun _ _ _ _ _ => True) (fun _ U oo_ U' => ∃ vv_ LL_, oo_ = .returned vv_ ∧ QOG Z a o h0 n0 vv_ U'.heap LL_ ∧ FrameEnd U oo_ U' LL_ ({ frames := 0, cells := 0, slots := 0, locals := 0 } : Room).cells ({ frames := 0, cells := 0, slots := 0, locals := 0 } : Room).slots) := by
  refine MetFree.of_bodySF (plainFor_of_name pn_2) hisR ?_
  intro p e s m args below meth c s₁ Bd hml0 hP hK
  obtain ⟨rfl, hZ, hh⟩ := hP
  have hx := Bd.exec
  have hby := Bd.bytes
  have hml : c.maxLocals = 1 := hml0
  have hown : s.vm.findClass "java/util/Optional" = some m.cls := findClass_of_methodNamed Bd.named
  have hnm := (name_of_methodNamed Bd.named Bd.method).1
  have X0 : Stand p l e ({ frames := 0, cells := 0, slots := 0, locals := 0 } : Room) s m #[(.ref a)] below meth c s₁ [] 0 0 := Stand.of_body Bd
  have e0 : s₁.heap = h0 := by rw [← hh, Bd.state]; rfl
  have N := Fr.nil n0
  have K : Keep h0 h0 [] := Keep.refl h0 _
  refine own_go (B := s₁.setTop (mkF m 0 #[.val (.ref a)] [])) (fun t k => castTop (ef_OG m a) k) ?_
  refine own_abs (fun P hfin => ?_)
  refine own_go (B := s₁.setTop (mkF m 1 #[.val (.ref a)] [(.ref a)])) (fun t k => ?_) ?_
  · show Steps p.tables e below (s₁.setTop (mkF m 0 #[.val (.ref a)] [])) _
    refine XS.aloadN X0.here hx rfl (hb hby d_jdk_32_method_5_0) rfl rfl ?_
    show Steps p.tables e below (s₁.setTop (mkF m 1 #[.val (.ref a)] [(.ref a)])) _
    exact k
  obtain ⟨T1, X1, e1, st1⟩ := getF X0 hx hZ hown (host := "") (Or.inl (hw _ (List.mem_of_getElem? (i := 63) rfl))) Via.refl e0 F (g := (mkF m 1 #[.val (.ref a)] [(.ref a)])) rfl rfl (hb hby d_jdk_32_method_5_1)
  refine own_go (B := T1.setTop (mkF m 4 #[.val (.ref a)] [(.ref o)])) st1 ?_
  refine own_go (B := T1.setTop (mkF m 18 #[.val (.ref a)] [(.ref a)])) (fun t k => ?_) ?_
  · show Steps p.tables e below (T1.setTop (mkF m 4 #[.val (.ref a)] [(.ref o)])) _
    refine XT.ifnonnullYes X1.here hx rfl (pc0 := 4) (pc' := 17) rfl (hb hby d_jdk_32_method_5_4) rfl (by decide) (by decide) ?_
    show Steps p.tables e below (T1.setTop (mkF m 17 #[.val (.ref a)] [])) _
    refine XS.aloadN X1.here hx rfl (hb hby d_jdk_32_method_5_17) rfl rfl ?_
    show Steps p.tables e below (T1.setTop (mkF m 18 #[.val (.ref a)] [(.ref a)])) _
    exact k
  obtain ⟨T2, X2, e2, st2⟩ := getF X1 hx hZ hown (host := "") (Or.inl (hw _ (List.mem_of_getElem? (i := 63) rfl))) Via.refl e1 F (g := (mkF m 18 #[.val (.ref a)] [(.ref a)])) rfl rfl (hb hby d_jdk_32_method_5_18)
  refine own_go (B := T2.setTop (mkF m 21 #[.val (.ref a)] [(.ref o)])) st2 ?_
  obtain ⟨fs, hr, hrun, hended, hW, hsame⟩ := X2.leave (v := some (.ref o)) (fun h => by rw [Bd.returns] at h; cases h)
  refine ⟨_, _, own_retA X2 hx rfl Bd.returns rfl (hb hby d_jdk_32_method_5_21) hr, hfin _ _ ⟨hrun, hended, _, _, rfl, ?_, ⟨_, rfl⟩, hW, hsame.mono (by decide) (by decide)⟩⟩
  show QOG Z a o h0 n0 _ T2.heap _
  exact ⟨rfl, N, e2⟩
def QEqS (Z : State) (a : Addr) (h0 : Heap) (n0 : Nat) (v : Option Value) (h : Heap) (L : List Loc) : Prop := v = some (.int (1 : Int32)) ∧ Fr n0 L ∧ h = h0
theorem ef_EqS (m : MethodId) (a : Addr) : entryFrame m #[(.ref a), (.ref a)] 3 = mkF m 0 #[.val (.ref a), .val (.ref a), .unset] [] := by first | (simp [entryFrame, mkF, argsToLocals, Value.category]; done) | rfl | (rfl)
set_option maxRecDepth 65536 in
set_option maxHeartbeats 40000000 in
theorem rmEqS (l : Launch) (Z : State) (a0 : Array Value) (hw : ∀ d ∈ tables_1, d.before a0 Z = true) (ws : List Jvm.Cond) (a : Addr) (h0 : Heap) (n0 : Nat) (O : Old Z n0 h0)  :
    MetFree l (⟨"java/lang/String", "equals", "(Ljava/lang/Object;)Z"⟩ : MethodName) (head1 (Jvm.Cond.code (⟨"java/lang/String", "equals", "(Ljava/lang/Object;)Z"⟩ : MethodName) jdk_42_method_66_code 3 (some .boolean) :: ws) ({ frames := 0, cells := 0, slots := 0, locals := 0 } : Room)) (fun as_ U => as_ = #[(.ref a), (.ref a)] ∧ Z.Warmed39 U.vm ∧ U.heap = h0) (fun _ _ _ _ _ => True) (fun _ U oo_ U' => ∃ vv_ LL_, oo_ = .returned vv_ ∧ QEqS Z a h0 n0 vv_ U'.heap LL_ ∧ FrameEnd U oo_ U' LL_ ({ frames := 0, cells := 0, slots := 0, locals := 0 } : Room).cells ({ frames := 0, cells := 0, slots := 0, locals := 0 } : Room).slots) := by
  refine MetFree.of_bodySF (plainFor_of_name pn_3) hisR ?_
  intro p e s m args below meth c s₁ Bd hml0 hP hK
  obtain ⟨rfl, hZ, hh⟩ := hP
  have hx := Bd.exec
  have hby := Bd.bytes
  have hml : c.maxLocals = 3 := hml0
  have hown : s.vm.findClass "java/lang/String" = some m.cls := findClass_of_methodNamed Bd.named
  have hnm := (name_of_methodNamed Bd.named Bd.method).1
  have X0 : Stand p l e ({ frames := 0, cells := 0, slots := 0, locals := 0 } : Room) s m #[(.ref a), (.ref a)] below meth c s₁ [] 0 0 := Stand.of_body Bd
  have e0 : s₁.heap = h0 := by rw [← hh, Bd.state]; rfl
  have N := Fr.nil n0
  have K : Keep h0 h0 [] := Keep.refl h0 _
  refine own_go (B := s₁.setTop (mkF m 0 #[.val (.ref a), .val (.ref a), .unset] [])) (fun t k => castTop (ef_EqS m a) k) ?_
  refine own_abs (fun P hfin => ?_)
  refine own_go (B := s₁.setTop (mkF m 6 #[.val (.ref a), .val (.ref a), .unset] [(.int (1 : Int32))])) (fun t k => ?_) ?_
  · show Steps p.tables e below (s₁.setTop (mkF m 0 #[.val (.ref a), .val (.ref a), .unset] [])) _
    refine XS.aloadN X0.here hx rfl (hb hby d_jdk_42_method_66_0) rfl rfl ?_
    show Steps p.tables e below (s₁.setTop (mkF m 1 #[.val (.ref a), .val (.ref a), .unset] [(.ref a)])) _
    refine XS.aloadN X0.here hx rfl (hb hby d_jdk_42_method_66_1) rfl rfl ?_
    show Steps p.tables e below (s₁.setTop (mkF m 2 #[.val (.ref a), .val (.ref a), .unset] [(.ref a), (.ref a)])) _
    refine Jvm.RoadKit.acmp (g := (mkF m 2 #[.val (.ref a), .val (.ref a), .unset] [(.ref a), (.ref a)])) X0 hx rfl rfl rfl (pc0 := 2) (pc' := 5) (same := true) rfl (hb hby d_jdk_42_method_66_2) rfl (decide_eq_true (congrArg Value.ref rfl)) (by decide) (by decide) ?_
    show Steps p.tables e below (s₁.setTop (mkF m 5 #[.val (.ref a), .val (.ref a), .unset] [])) _
    refine XS.iconst X0.here hx rfl (hb hby d_jdk_42_method_66_5) ?_
    show Steps p.tables e below (s₁.setTop (mkF m 6 #[.val (.ref a), .val (.ref a), .unset] [(.int (1 : Int32))])) _
    exact k
  obtain ⟨fs, hr, hrun, hended, hW, hsame⟩ := X0.leave (v := some (.int (1 : Int32))) (fun h => by rw [Bd.returns] at h; cases h)
  refine ⟨_, _, retN X0 hx (t := .boolean) Bd.returns (by simp) (hb hby d_jdk_42_method_66_6) hr, hfin _ _ ⟨hrun, hended, _, _, rfl, ?_, ⟨_, rfl⟩, hW, hsame.mono (by decide) (by decide)⟩⟩
  show QEqS Z a h0 n0 _ s₁.heap _
  exact ⟨rfl, N, e0⟩
def QSE2 (Z : State) (a : Addr) (b : Addr) (h0 : Heap) (n0 : Nat) (v : Option Value) (h : Heap) (L : List Loc) : Prop := ∃ t : Addr, ∃ k : ClassId, v = none ∧ Fr n0 L ∧ Keep h0 h [a] ∧ Fld Z h a "java/lang/String" "coder" "B" (.int (0 : Int32)) ∧ Fld Z h a "java/lang/String" "value" "[B" (.ref t) ∧ Arv Z h t k .byte (0 : Int32) (own_bs []) (.int (0 : Int32))
theorem ef_SE2 (m : MethodId) (a : Addr) (b : Addr) : entryFrame m #[(.ref a), (.ref b), (.int (0 : Int32)), (.int (0 : Int32)), .null] 6 = mkF m 0 #[.val (.ref a), .val (.ref b), .val (.int (0 : Int32)), .val (.int (0 : Int32)), .val .null, .unset] [] := by first | (simp [entryFrame, mkF, argsToLocals, Value.category]; done) | rfl | (rfl)
set_option maxRecDepth 65536 in
set_option maxHeartbeats 40000000 in
theorem rmSE2 (l : Launch) (Z : State) (a0 : Array Value) (hw : ∀ d ∈ tables_1, d.before a0 Z = true) (ws : List Jvm.Cond) (a : Addr) (b : Addr) (h0 : Heap) (n0 : Nat) (O : Old Z n0 h0) (E : Exa Z h0 a "java/lang/String") (F1 : Fld Z h0 a "java/lang/String" "value" "[B" .null) (F2 : Fld Z h0 a "java/lang/String" "coder" "B" (.int (0 : Int32))) (ga : n0 ≤ a) (hcH : Jvm.Lit.constHeld Z "java/lang/String" 7) (hcw : Jvm.Lit.compactW.before a0 Z = true) :
    MetFree l (⟨"java/lang/String", "<init>", "([CIILjava/lang/Void;)V"⟩ : MethodName) (head1 (Jvm.Cond.code (⟨"java/lang/String", "<init>", "([CIILjava/lang/Void;)V"⟩ : MethodName) jdk_42_method_149_code 6 none :: ws) ({ frames := 1, cells := 2, slots := 4, locals := 12 } : Room)) (fun as_ U => as_ = #[(.ref a), (.ref b), (.int (0 : Int32)), (.int (0 : Int32)), .null] ∧ Z.Warmed39 U.vm ∧ U.heap = h0 ∧ Em Z U.vm h0) (fun _ _ _ _ _ => True) (fun _ U oo_ U' => ∃ vv_ LL_, oo_ = .returned vv_ ∧ QSE2 Z a b h0 n0 vv_ U'.heap LL_ ∧ ReturnedEndW U oo_ U' LL_ ({ frames := 1, cells := 2, slots := 4, locals := 12 } : Room).cells ({ frames := 1, cells := 2, slots := 4, locals := 12 } : Room).slots ∧ Em Z U'.vm U'.heap) := by
  refine MetFree.of_bodySF (plainFor_of_name pn_3) hisR ?_
  intro p e s m args below meth c s₁ Bd hml0 hP hK
  obtain ⟨rfl, hZ, hh, M⟩ := hP
  have hx := Bd.exec
  have hby := Bd.bytes
  have hml : c.maxLocals = 6 := hml0
  have hown : s.vm.findClass "java/lang/String" = some m.cls := findClass_of_methodNamed Bd.named
  have hnm := (name_of_methodNamed Bd.named Bd.method).1
  have X0 : Stand p l e ({ frames := 1, cells := 2, slots := 4, locals := 12 } : Room) (s.setVm s.vm) m #[(.ref a), (.ref b), (.int (0 : Int32)), (.int (0 : Int32)), .null] below meth c s₁ [] 0 0 := Stand.of_body Bd
  have e0 : s₁.heap = h0 := by rw [← hh, Bd.state]; rfl
  have N := Fr.nil n0
  have hown : (s.setVm s.vm).vm.findClass "java/lang/String" = some m.cls := hown
  have hZ : Z.Warmed39 (s.setVm s.vm).vm := hZ
  have hS : s.Since s.vm h0.size := (State.WarmedH.refl s).since _
  have hk : h0.size ≤ h0.size := Nat.le_refl _
  have K : Keep h0 h0 [a] := Keep.refl h0 _
  refine own_go (B := s₁.setTop (mkF m 0 #[.val (.ref a), .val (.ref b), .val (.int (0 : Int32)), .val (.int (0 : Int32)), .val .null, .unset] [])) (fun t k => castTop (ef_SE2 m a b) k) ?_
  have KM : Keep h0 h0 [] := Keep.refl h0 _
  refine own_abs (fun P hfin => ?_)
  refine own_go (B := s₁.setTop (mkF m 1 #[.val (.ref a), .val (.ref b), .val (.int (0 : Int32)), .val (.int (0 : Int32)), .val .null, .unset] [(.ref a)])) (fun t k => ?_) ?_
  · show Steps p.tables e below (s₁.setTop (mkF m 0 #[.val (.ref a), .val (.ref b), .val (.int (0 : Int32)), .val (.int (0 : Int32)), .val .null, .unset] [])) _
    refine XS.aloadN X0.here hx rfl (hb hby d_jdk_42_method_149_0) rfl rfl ?_
    show Steps p.tables e below (s₁.setTop (mkF m 1 #[.val (.ref a), .val (.ref b), .val (.int (0 : Int32)), .val (.int (0 : Int32)), .val .null, .unset] [(.ref a)])) _
    exact k
  obtain ⟨T1, X1, e1, st1⟩ := initO X0 hx hZ hown (hw _ (List.mem_of_getElem? (i := 15) rfl)) (hw _ (List.mem_of_getElem? (i := 16) rfl)) (hw _ (List.mem_of_getElem? (i := 17) rfl)) e0 (g := (mkF m 1 #[.val (.ref a), .val (.ref b), .val (.int (0 : Int32)), .val (.int (0 : Int32)), .val .null, .unset] [(.ref a)])) rfl (by rw [hml]; rfl) rfl (hb hby d_jdk_42_method_149_1) (by decide) (W := 0) (by show 2 * 0 + _ ≤ _; exact Nat.le_of_eq rfl) (by decide)
  refine own_go (B := T1.setTop (mkF m 4 #[.val (.ref a), .val (.ref b), .val (.int (0 : Int32)), .val (.int (0 : Int32)), .val .null, .unset] [])) st1 ?_
  refine own_go (B := T1.setTop (mkF m 9 #[.val (.ref a), .val (.ref b), .val (.int (0 : Int32)), .val (.int (0 : Int32)), .val .null, .unset] [(.ref a)])) (fun t k => ?_) ?_
  · show Steps p.tables e below (T1.setTop (mkF m 4 #[.val (.ref a), .val (.ref b), .val (.int (0 : Int32)), .val (.int (0 : Int32)), .val .null, .unset] [])) _
    refine XS.iloadN X1.here hx rfl (hb hby d_jdk_42_method_149_4) rfl ?_
    show Steps p.tables e below (T1.setTop (mkF m 5 #[.val (.ref a), .val (.ref b), .val (.int (0 : Int32)), .val (.int (0 : Int32)), .val .null, .unset] [(.int (0 : Int32))])) _
    refine XS.ifNo X1.here hx rfl (hb hby d_jdk_42_method_149_5) rfl ((if0 _ _).trans (teq (by decide)).2) ?_
    show Steps p.tables e below (T1.setTop (mkF m 8 #[.val (.ref a), .val (.ref b), .val (.int (0 : Int32)), .val (.int (0 : Int32)), .val .null, .unset] [])) _
    refine XS.aloadN X1.here hx rfl (hb hby d_jdk_42_method_149_8) rfl rfl ?_
    show Steps p.tables e below (T1.setTop (mkF m 9 #[.val (.ref a), .val (.ref b), .val (.int (0 : Int32)), .val (.int (0 : Int32)), .val .null, .unset] [(.ref a)])) _
    exact k
  rcases M with I | ⟨ca, cb, ck, LL, Ec, Fc, Fv, Vb⟩
  · have hkeep : ∀ (b : Addr) (cl : Cell), Z.heap[b]? = some cl → s.heap[b]? = some cl := fun b cl q => by rw [hh]; exact O.2.2 b cl q
    obtain ⟨ca, T2, h2, k2, cb, ck, X2, e2, E2, hS, hk', hZ, hown, Ec, Fc, Fv, Vb, -, -, -, LL, st2⟩ := ldcSVL X1 hx hZ hown (hw _ (List.mem_of_getElem? (i := 34) rfl)) (fun d hd => hw d ((by decide +kernel : ∀ d ∈ Bundle.stringAtoms, d ∈ tables_1) d hd)) e1 hS hk (Fr.nil _) hkeep I (by simp) hcH hcw (vs := []) (z := 0) ⟨by simp, rfl⟩ (by decide) rfl (g := (mkF m 9 #[.val (.ref a), .val (.ref b), .val (.int (0 : Int32)), .val (.int (0 : Int32)), .val .null, .unset] [(.ref a)])) rfl (hb hby d_jdk_42_method_149_9) (n := 0) (by decide) (by decide) (by decide) (by decide)
    replace E := E.ext E2
    replace F1 := F1.ext E2
    replace F2 := F2.ext E2
    replace O := O.ext E2
    replace hk := Nat.le_trans hk E2.1
    replace KM := KM.ext E2
    replace K := K.ext E2
    replace hk := hk'
    replace Vb : Arv Z h2 cb ck .byte (0 : Int32) (own_bs []) (.int (0 : Int32)) := Vb
    refine own_go (B := T2.setTop (mkF m 11 #[.val (.ref a), .val (.ref b), .val (.int (0 : Int32)), .val (.int (0 : Int32)), .val .null, .unset] [(.ref ca), (.ref a)])) st2 ?_
    have ne_ca : ca ≠ a := Fld.ne Fv F1 (by simp)
    have ne_cb : cb ≠ a := Ne.symm (E.neArv Vb (hw _ (List.mem_of_getElem? (i := 5) rfl)))
    obtain ⟨T3, X3, e3, st3⟩ := getF X2 hx hZ hown (host := "") (Or.inl (hw _ (List.mem_of_getElem? (i := 32) rfl))) Via.refl e2 Fv (g := (mkF m 11 #[.val (.ref a), .val (.ref b), .val (.int (0 : Int32)), .val (.int (0 : Int32)), .val .null, .unset] [(.ref ca), (.ref a)])) rfl rfl (hb hby d_jdk_42_method_149_11)
    refine own_go (B := T3.setTop (mkF m 14 #[.val (.ref a), .val (.ref b), .val (.int (0 : Int32)), .val (.int (0 : Int32)), .val .null, .unset] [(.ref cb), (.ref a)])) st3 ?_
    obtain ⟨T4, h4, X4, e4, W4, st4⟩ := putF X3 hx hZ hown (host := "") (Or.inl (hw _ (List.mem_of_getElem? (i := 32) rfl))) Via.refl e3 F1 E (Or.inr ⟨(hw _ (List.mem_of_getElem? (i := 33) rfl)), rfl, hnm⟩) (hw _ (List.mem_of_getElem? (i := 5) rfl)) (ty := (.array .byte)) (by decide) rfl rfl (g := (mkF m 14 #[.val (.ref a), .val (.ref b), .val (.int (0 : Int32)), .val (.int (0 : Int32)), .val .null, .unset] [(.ref cb), (.ref a)])) rfl rfl (hb hby d_jdk_42_method_149_14)
    have Fw4 := F1.same W4
    replace E := E.wr W4
    clear F1
    replace F2 := F2.other W4 (Or.inr (slot_ne (Or.inr (hw _ (List.mem_of_getElem? (i := 31) rfl))) (Or.inr (hw _ (List.mem_of_getElem? (i := 33) rfl))) (by decide) (t := .byte) (t' := (.array .byte)) (by decide) (by decide)))
    replace Ec := Ec.wr W4
    replace Fc := Fc.other W4 (Or.inl ne_ca)
    replace Fv := Fv.other W4 (Or.inl ne_ca)
    replace Vb := Vb.other W4 ne_cb
    replace O := O.wr W4 ga
    replace hk := Nat.le_trans hk (Keep.of_wr W4).1
    replace K := K.wr W4 (Or.inl (List.mem_of_getElem? (i := 0) rfl))
    replace N := Fr.snoc X4 N ga
    refine own_go (B := T4.setTop (mkF m 17 #[.val (.ref a), .val (.ref b), .val (.int (0 : Int32)), .val (.int (0 : Int32)), .val .null, .unset] [])) st4 ?_
    refine own_go (B := T4.setTop (mkF m 18 #[.val (.ref a), .val (.ref b), .val (.int (0 : Int32)), .val (.int (0 : Int32)), .val .null, .unset] [(.ref a)])) (fun t k => ?_) ?_
    · show Steps p.tables e below (T4.setTop (mkF m 17 #[.val (.ref a), .val (.ref b), .val (.int (0 : Int32)), .val (.int (0 : Int32)), .val .null, .unset] [])) _
      refine XS.aloadN X4.here hx rfl (hb hby d_jdk_42_method_149_17) rfl rfl ?_
      show Steps p.tables e below (T4.setTop (mkF m 18 #[.val (.ref a), .val (.ref b), .val (.int (0 : Int32)), .val (.int (0 : Int32)), .val .null, .unset] [(.ref a)])) _
      exact k
    have st5 := ldcAgain X4 hx hZ hown (hw _ (List.mem_of_getElem? (i := 34) rfl)) LL (g := (mkF m 18 #[.val (.ref a), .val (.ref b), .val (.int (0 : Int32)), .val (.int (0 : Int32)), .val .null, .unset] [(.ref a)])) rfl (hb hby d_jdk_42_method_149_18)
    refine own_go (B := T4.setTop (mkF m 20 #[.val (.ref a), .val (.ref b), .val (.int (0 : Int32)), .val (.int (0 : Int32)), .val .null, .unset] [(.ref ca), (.ref a)])) st5 ?_
    obtain ⟨T6, X6, e6, st6⟩ := getF X4 hx hZ hown (host := "") (Or.inl (hw _ (List.mem_of_getElem? (i := 30) rfl))) Via.refl e4 Fc (g := (mkF m 20 #[.val (.ref a), .val (.ref b), .val (.int (0 : Int32)), .val (.int (0 : Int32)), .val .null, .unset] [(.ref ca), (.ref a)])) rfl rfl (hb hby d_jdk_42_method_149_20)
    refine own_go (B := T6.setTop (mkF m 23 #[.val (.ref a), .val (.ref b), .val (.int (0 : Int32)), .val (.int (0 : Int32)), .val .null, .unset] [(.int (0 : Int32)), (.ref a)])) st6 ?_
    obtain ⟨T7, h7, X7, e7, W7, st7⟩ := putFN X6 hx hZ hown (hw _ (List.mem_of_getElem? (i := 30) rfl)) Via.refl e6 F2 E (Or.inr ⟨(hw _ (List.mem_of_getElem? (i := 31) rfl)), rfl, hnm⟩) (hw _ (List.mem_of_getElem? (i := 5) rfl)) (ty := .byte) (v' := (.int (0 : Int32))) (by decide) rfl rfl (g := (mkF m 23 #[.val (.ref a), .val (.ref b), .val (.int (0 : Int32)), .val (.int (0 : Int32)), .val .null, .unset] [(.int (0 : Int32)), (.ref a)])) rfl rfl (hb hby d_jdk_42_method_149_23)
    have Fw7 := F2.same W7
    replace E := E.wr W7
    clear F2
    replace Ec := Ec.wr W7
    replace Fc := Fc.other W7 (Or.inl ne_ca)
    replace Fv := Fv.other W7 (Or.inl ne_ca)
    replace Vb := Vb.other W7 ne_cb
    replace Fw4 := Fw4.other W7 (Or.inr (slot_ne (Or.inr (hw _ (List.mem_of_getElem? (i := 33) rfl))) (Or.inr (hw _ (List.mem_of_getElem? (i := 31) rfl))) (by decide) (t := (.array .byte)) (t' := .byte) (by decide) (by decide)))
    replace O := O.wr W7 ga
    replace hk := Nat.le_trans hk (Keep.of_wr W7).1
    replace K := K.wr W7 (Or.inl (List.mem_of_getElem? (i := 0) rfl))
    replace N := Fr.snoc X7 N ga
    refine own_go (B := T7.setTop (mkF m 26 #[.val (.ref a), .val (.ref b), .val (.int (0 : Int32)), .val (.int (0 : Int32)), .val .null, .unset] [])) st7 ?_
    have M : Em Z T2.vm h7 := Or.inr ⟨ca, cb, ck, LL, Ec, Fc, Fv, Vb⟩
    have KM : Keep h7 h7 [] := Keep.refl _ _
    obtain ⟨fs, hr, hrun, hended, hEnd⟩ := X7.leaveW hS (by rw [e7]; exact hk) (v := none) (fun _ => rfl)
    refine ⟨_, _, X7.returnOut hx Bd.returns (hb hby d_jdk_42_method_149_26) hr, hfin _ _ ⟨hrun, hended, _, _, rfl, ?_, ⟨hEnd.1, hEnd.2.1, hEnd.2.2.1, hEnd.2.2.2.mono (by decide) (by decide)⟩, own_emR e7 (Em.warm M X7.warmed)⟩⟩
    show QSE2 Z a b h0 n0 _ T7.heap _
    rw [e7]
    exact ⟨cb, ck, rfl, N, K, Fw7, Fw4, Vb⟩
  · replace LL : Lit (s.setVm s.vm) "java/lang/String" 7 ca := LL
    have st9 := ldcAgain X1 hx hZ hown (hw _ (List.mem_of_getElem? (i := 34) rfl)) LL (g := (mkF m 9 #[.val (.ref a), .val (.ref b), .val (.int (0 : Int32)), .val (.int (0 : Int32)), .val .null, .unset] [(.ref a)])) rfl (hb hby d_jdk_42_method_149_9)
    refine own_go (B := T1.setTop (mkF m 11 #[.val (.ref a), .val (.ref b), .val (.int (0 : Int32)), .val (.int (0 : Int32)), .val .null, .unset] [(.ref ca), (.ref a)])) st9 ?_
    have ne_ca : ca ≠ a := Fld.ne Fv F1 (by simp)
    have ne_cb : cb ≠ a := Ne.symm (E.neArv Vb (hw _ (List.mem_of_getElem? (i := 5) rfl)))
    obtain ⟨T10, X10, e10, st10⟩ := getF X1 hx hZ hown (host := "") (Or.inl (hw _ (List.mem_of_getElem? (i := 32) rfl))) Via.refl e1 Fv (g := (mkF m 11 #[.val (.ref a), .val (.ref b), .val (.int (0 : Int32)), .val (.int (0 : Int32)), .val .null, .unset] [(.ref ca), (.ref a)])) rfl rfl (hb hby d_jdk_42_method_149_11)
    refine own_go (B := T10.setTop (mkF m 14 #[.val (.ref a), .val (.ref b), .val (.int (0 : Int32)), .val (.int (0 : Int32)), .val .null, .unset] [(.ref cb), (.ref a)])) st10 ?_
    obtain ⟨T11, h11, X11, e11, W11, st11⟩ := putF X10 hx hZ hown (host := "") (Or.inl (hw _ (List.mem_of_getElem? (i := 32) rfl))) Via.refl e10 F1 E (Or.inr ⟨(hw _ (List.mem_of_getElem? (i := 33) rfl)), rfl, hnm⟩) (hw _ (List.mem_of_getElem? (i := 5) rfl)) (ty := (.array .byte)) (by decide) rfl rfl (g := (mkF m 14 #[.val (.ref a), .val (.ref b), .val (.int (0 : Int32)), .val (.int (0 : Int32)), .val .null, .unset] [(.ref cb), (.ref a)])) rfl rfl (hb hby d_jdk_42_method_149_14)
    have Fw11 := F1.same W11
    replace E := E.wr W11
    clear F1
    replace F2 := F2.other W11 (Or.inr (slot_ne (Or.inr (hw _ (List.mem_of_getElem? (i := 31) rfl))) (Or.inr (hw _ (List.mem_of_getElem? (i := 33) rfl))) (by decide) (t := .byte) (t' := (.array .byte)) (by decide) (by decide)))
    replace Ec := Ec.wr W11
    replace Fc := Fc.other W11 (Or.inl ne_ca)
    replace Fv := Fv.other W11 (Or.inl ne_ca)
    replace Vb := Vb.other W11 ne_cb
    replace O := O.wr W11 ga
    replace hk := Nat.le_trans hk (Keep.of_wr W11).1
    replace K := K.wr W11 (Or.inl (List.mem_of_getElem? (i := 0) rfl))
    replace N := Fr.snoc X11 N ga
    refine own_go (B := T11.setTop (mkF m 17 #[.val (.ref a), .val (.ref b), .val (.int (0 : Int32)), .val (.int (0 : Int32)), .val .null, .unset] [])) st11 ?_
    refine own_go (B := T11.setTop (mkF m 18 #[.val (.ref a), .val (.ref b), .val (.int (0 : Int32)), .val (.int (0 : Int32)), .val .null, .unset] [(.ref a)])) (fun t k => ?_) ?_
    · show Steps p.tables e below (T11.setTop (mkF m 17 #[.val (.ref a), .val (.ref b), .val (.int (0 : Int32)), .val (.int (0 : Int32)), .val .null, .unset] [])) _
      refine XS.aloadN X11.here hx rfl (hb hby d_jdk_42_method_149_17) rfl rfl ?_
      show Steps p.tables e below (T11.setTop (mkF m 18 #[.val (.ref a), .val (.ref b), .val (.int (0 : Int32)), .val (.int (0 : Int32)), .val .null, .unset] [(.ref a)])) _
      exact k
    have st12 := ldcAgain X11 hx hZ hown (hw _ (List.mem_of_getElem? (i := 34) rfl)) LL (g := (mkF m 18 #[.val (.ref a), .val (.ref b), .val (.int (0 : Int32)), .val (.int (0 : Int32)), .val .null, .unset] [(.ref a)])) rfl (hb hby d_jdk_42_method_149_18)
    refine own_go (B := T11.setTop (mkF m 20 #[.val (.ref a), .val (.ref b), .val (.int (0 : Int32)), .val (.int (0 : Int32)), .val .null, .unset] [(.ref ca), (.ref a)])) st12 ?_
    obtain ⟨T13, X13, e13, st13⟩ := getF X11 hx hZ hown (host := "") (Or.inl (hw _ (List.mem_of_getElem? (i := 30) rfl))) Via.refl e11 Fc (g := (mkF m 20 #[.val (.ref a), .val (.ref b), .val (.int (0 : Int32)), .val (.int (0 : Int32)), .val .null, .unset] [(.ref ca), (.ref a)])) rfl rfl (hb hby d_jdk_42_method_149_20)
    refine own_go (B := T13.setTop (mkF m 23 #[.val (.ref a), .val (.ref b), .val (.int (0 : Int32)), .val (.int (0 : Int32)), .val .null, .unset] [(.int (0 : Int32)), (.ref a)])) st13 ?_
    obtain ⟨T14, h14, X14, e14, W14, st14⟩ := putFN X13 hx hZ hown (hw _ (List.mem_of_getElem? (i := 30) rfl)) Via.refl e13 F2 E (Or.inr ⟨(hw _ (List.mem_of_getElem? (i := 31) rfl)), rfl, hnm⟩) (hw _ (List.mem_of_getElem? (i := 5) rfl)) (ty := .byte) (v' := (.int (0 : Int32))) (by decide) rfl rfl (g := (mkF m 23 #[.val (.ref a), .val (.ref b), .val (.int (0 : Int32)), .val (.int (0 : Int32)), .val .null, .unset] [(.int (0 : Int32)), (.ref a)])) rfl rfl (hb hby d_jdk_42_method_149_23)
    have Fw14 := F2.same W14
    replace E := E.wr W14
    clear F2
    replace Ec := Ec.wr W14
    replace Fc := Fc.other W14 (Or.inl ne_ca)
    replace Fv := Fv.other W14 (Or.inl ne_ca)
    replace Vb := Vb.other W14 ne_cb
    replace Fw11 := Fw11.other W14 (Or.inr (slot_ne (Or.inr (hw _ (List.mem_of_getElem? (i := 33) rfl))) (Or.inr (hw _ (List.mem_of_getElem? (i := 31) rfl))) (by decide) (t := (.array .byte)) (t' := .byte) (by decide) (by decide)))
    replace O := O.wr W14 ga
    replace hk := Nat.le_trans hk (Keep.of_wr W14).1
    replace K := K.wr W14 (Or.inl (List.mem_of_getElem? (i := 0) rfl))
    replace N := Fr.snoc X14 N ga
    refine own_go (B := T14.setTop (mkF m 26 #[.val (.ref a), .val (.ref b), .val (.int (0 : Int32)), .val (.int (0 : Int32)), .val .null, .unset] [])) st14 ?_
    have M : Em Z s.vm h14 := Or.inr ⟨ca, cb, ck, LL, Ec, Fc, Fv, Vb⟩
    have KM : Keep h14 h14 [] := Keep.refl _ _
    obtain ⟨fs, hr, hrun, hended, hEnd⟩ := X14.leaveW hS (by rw [e14]; exact hk) (v := none) (fun _ => rfl)
    refine ⟨_, _, X14.returnOut hx Bd.returns (hb hby d_jdk_42_method_149_26) hr, hfin _ _ ⟨hrun, hended, _, _, rfl, ?_, ⟨hEnd.1, hEnd.2.1, hEnd.2.2.1, hEnd.2.2.2.mono (by decide) (by decide)⟩, own_emR e14 (Em.warm M X14.warmed)⟩⟩
    show QSE2 Z a b h0 n0 _ T14.heap _
    rw [e14]
    exact ⟨cb, ck, rfl, N, K, Fw14, Fw11, Vb⟩
def QSE1 (Z : State) (a : Addr) (b : Addr) (kc : ClassId) (vs : List Value) (dv : Value) (h0 : Heap) (n0 : Nat) (v : Option Value) (h : Heap) (L : List Loc) : Prop := ∃ t : Addr, ∃ k : ClassId, v = none ∧ Fr n0 L ∧ Keep h0 h [a] ∧ Fld Z h a "java/lang/String" "coder" "B" (.int (0 : Int32)) ∧ Fld Z h a "java/lang/String" "value" "[B" (.ref t) ∧ Arv Z h t k .byte (0 : Int32) (own_bs []) (.int (0 : Int32))
theorem ef_SE1 (m : MethodId) (a : Addr) (b : Addr) : entryFrame m #[(.ref a), (.ref b)] 2 = mkF m 0 #[.val (.ref a), .val (.ref b)] [] := by first | (simp [entryFrame, mkF, argsToLocals, Value.category]; done) | rfl | (rfl)
set_option maxRecDepth 65536 in
set_option maxHeartbeats 40000000 in
theorem rmSE1 (l : Launch) (Z : State) (a0 : Array Value) (hw : ∀ d ∈ tables_1, d.before a0 Z = true) (ws : List Jvm.Cond) (a : Addr) (b : Addr) (kc : ClassId) (vs : List Value) (dv : Value) (h0 : Heap) (n0 : Nat) (O : Old Z n0 h0) (E : Exa Z h0 a "java/lang/String") (F1 : Fld Z h0 a "java/lang/String" "value" "[B" .null) (F2 : Fld Z h0 a "java/lang/String" "coder" "B" (.int (0 : Int32))) (ga : n0 ≤ a) (V : Arv Z h0 b kc .char (0 : Int32) vs dv) (hcH : Jvm.Lit.constHeld Z "java/lang/String" 7) (hcw : Jvm.Lit.compactW.before a0 Z = true) :
    MetFree l (⟨"java/lang/String", "<init>", "([C)V"⟩ : MethodName) (head1 (Jvm.Cond.code (⟨"java/lang/String", "<init>", "([C)V"⟩ : MethodName) jdk_42_method_3_code 2 none :: ws) ({ frames := 2, cells := 2, slots := 4, locals := 29 } : Room)) (fun as_ U => as_ = #[(.ref a), (.ref b)] ∧ Z.Warmed39 U.vm ∧ U.heap = h0 ∧ Em Z U.vm h0) (fun _ _ _ _ _ => True) (fun _ U oo_ U' => ∃ vv_ LL_, oo_ = .returned vv_ ∧ QSE1 Z a b kc vs dv h0 n0 vv_ U'.heap LL_ ∧ ReturnedEndW U oo_ U' LL_ ({ frames := 2, cells := 2, slots := 4, locals := 29 } : Room).cells ({ frames := 2, cells := 2, slots := 4, locals := 29 } : Room).slots ∧ Em Z U'.vm U'.heap) := by
  refine MetFree.of_bodySF (plainFor_of_name pn_3) hisR ?_
  intro p e s m args below meth c s₁ Bd hml0 hP hK
  obtain ⟨rfl, hZ, hh, M⟩ := hP
  have hx := Bd.exec
  have hby := Bd.bytes
  have hml : c.maxLocals = 2 := hml0
  have hown : s.vm.findClass "java/lang/String" = some m.cls := findClass_of_methodNamed Bd.named
  have hnm := (name_of_methodNamed Bd.named Bd.method).1
  have X0 : Stand p l e ({ frames := 2, cells := 2, slots := 4, locals := 29 } : Room) (s.setVm s.vm) m #[(.ref a), (.ref b)] below meth c s₁ [] 0 0 := Stand.of_body Bd
  have e0 : s₁.heap = h0 := by rw [← hh, Bd.state]; rfl
  have N := Fr.nil n0
  have hown : (s.setVm s.vm).vm.findClass "java/lang/String" = some m.cls := hown
  have hZ : Z.Warmed39 (s.setVm s.vm).vm := hZ
  have hS : s.Since s.vm h0.size := (State.WarmedH.refl s).since _
  have hk : h0.size ≤ h0.size := Nat.le_refl _
  have K : Keep h0 h0 [a] := Keep.refl h0 _
  refine own_go (B := s₁.setTop (mkF m 0 #[.val (.ref a), .val (.ref b)] [])) (fun t k => castTop (ef_SE1 m a b) k) ?_
  have KM : Keep h0 h0 [] := Keep.refl h0 _
  refine own_abs (fun P hfin => ?_)
  refine own_go (B := s₁.setTop (mkF m 4 #[.val (.ref a), .val (.ref b)] [(.ref b), (.int (0 : Int32)), (.ref b), (.ref a)])) (fun t k => ?_) ?_
  · show Steps p.tables e below (s₁.setTop (mkF m 0 #[.val (.ref a), .val (.ref b)] [])) _
    refine XS.aloadN X0.here hx rfl (hb hby d_jdk_42_method_3_0) rfl rfl ?_
    show Steps p.tables e below (s₁.setTop (mkF m 1 #[.val (.ref a), .val (.ref b)] [(.ref a)])) _
    refine XS.aloadN X0.here hx rfl (hb hby d_jdk_42_method_3_1) rfl rfl ?_
    show Steps p.tables e below (s₁.setTop (mkF m 2 #[.val (.ref a), .val (.ref b)] [(.ref b), (.ref a)])) _
    refine XS.iconst X0.here hx rfl (hb hby d_jdk_42_method_3_2) ?_
    show Steps p.tables e below (s₁.setTop (mkF m 3 #[.val (.ref a), .val (.ref b)] [(.int (0 : Int32)), (.ref b), (.ref a)])) _
    refine XS.aloadN X0.here hx rfl (hb hby d_jdk_42_method_3_3) rfl rfl ?_
    show Steps p.tables e below (s₁.setTop (mkF m 4 #[.val (.ref a), .val (.ref b)] [(.ref b), (.int (0 : Int32)), (.ref b), (.ref a)])) _
    exact k
  have st1 : ∀ target, Steps p.tables e below (s₁.setTop (mkF m 5 #[.val (.ref a), .val (.ref b)] [(.int (0 : Int32)), (.int (0 : Int32)), (.ref b), (.ref a)])) target → Steps p.tables e below (s₁.setTop (mkF m 4 #[.val (.ref a), .val (.ref b)] [(.ref b), (.int (0 : Int32)), (.ref b), (.ref a)])) target := by
    obtain ⟨cl, Ar, q, Sz, Nn, Hs, Gt⟩ := V
    intro target kt
    refine X0.arraylength hx (by rw [e0]; exact Ar.1) (State.isArrayOf_alike hZ.alike Ar.2.1) (g := (mkF m 4 #[.val (.ref a), .val (.ref b)] [(.ref b), (.int (0 : Int32)), (.ref b), (.ref a)])) rfl rfl (hb hby d_jdk_42_method_3_4) _ ?_
    rw [len_of Sz Nn]
    exact kt
  refine own_go (B := s₁.setTop (mkF m 5 #[.val (.ref a), .val (.ref b)] [(.int (0 : Int32)), (.int (0 : Int32)), (.ref b), (.ref a)])) st1 ?_
  refine own_go (B := s₁.setTop (mkF m 6 #[.val (.ref a), .val (.ref b)] [.null, (.int (0 : Int32)), (.int (0 : Int32)), (.ref b), (.ref a)])) (fun t k => ?_) ?_
  · show Steps p.tables e below (s₁.setTop (mkF m 5 #[.val (.ref a), .val (.ref b)] [(.int (0 : Int32)), (.int (0 : Int32)), (.ref b), (.ref a)])) _
    refine XS.aconstNull X0.here hx rfl (hb hby d_jdk_42_method_3_5) ?_
    show Steps p.tables e below (s₁.setTop (mkF m 6 #[.val (.ref a), .val (.ref b)] [.null, (.int (0 : Int32)), (.int (0 : Int32)), (.ref b), (.ref a)])) _
    exact k
  clear V
  -- pc 6: java/lang/String.<init>
  obtain ⟨_, _, ⟨T2, L2, k2, n2⟩, -, X2, hSq2, hgq2, ⟨Lc2, hQ2, l2, y2, z2⟩, st2⟩ := X0.specialBackS hx (y := (⟨"java/lang/String", "<init>", "([CIILjava/lang/Void;)V"⟩ : MethodName)) rfl hown (mvT hZ (hw _ (List.mem_of_getElem? (i := 11) rfl))) (mvT hZ (hw _ (List.mem_of_getElem? (i := 12) rfl))) (mvT hZ (hw _ (List.mem_of_getElem? (i := 14) rfl))) (by decide) (own_backOfE (W := 0) (rmSE2 l Z a0 hw [] a b h0 n0 O E F1 F2 ga hcH hcw) hZ (hw _ (List.mem_of_getElem? (i := 14) rfl)) (hw _ (List.mem_of_getElem? (i := 6) rfl)) (by decide) (by decide)) (g := (mkF m 6 #[.val (.ref a), .val (.ref b)] [.null, (.int (0 : Int32)), (.int (0 : Int32)), (.ref b), (.ref a)])) rfl (by rw [hml]; rfl) (Steps.refl _) (a := a) (argsL := [(.ref b), (.int (0 : Int32)), (.int (0 : Int32)), .null]) (rest := []) (lenOf pd_2 rfl) rfl (by show 2 * 0 + _ ≤ _; exact Nat.le_of_eq rfl) (hb hby d_jdk_42_method_3_6) (fun _ hWm => ⟨rfl, e0, (by decide : 0 + 2 ≤ _), (by decide : 0 + 4 ≤ _), Em.warm M hWm⟩)
  dsimp only [Pt.U, Pt.locs, Pt.cells, Pt.slots] at X2 l2 y2 z2 st2 hQ2 hSq2 hgq2
  subst l2 y2 z2
  obtain ⟨X2, hS, hZ, hown⟩ := rebS hS (by rw [e0]; exact hk) X2 hSq2 hgq2 hZ hown
  obtain ⟨⟨t2, k2, rfl, Nq2, Kq2, Gq2_0, Gq2_1, Gq2_2⟩, M⟩ := hQ2
  replace N := Fr.app N Nq2
  replace E := E.keep Kq2
  clear F1
  clear F2
  replace O := O.keep Kq2 (allS ga all0)
  replace K := K.trans Kq2 (allS (Or.inl (List.mem_of_getElem? (i := 0) rfl)) all0)
  have hk : T2.heap.size ≤ T2.heap.size := Nat.le_refl _
  have KM : Keep T2.heap T2.heap [] := Keep.refl _ _
  refine own_go (B := T2.setTop (mkF m 9 #[.val (.ref a), .val (.ref b)] [])) (fun t k => st2.trans k) ?_
  obtain ⟨fs, hr, hrun, hended, hEnd⟩ := X2.leaveW hS hk (v := none) (fun _ => rfl)
  refine ⟨_, _, X2.returnOut hx Bd.returns (hb hby d_jdk_42_method_3_9) hr, hfin _ _ ⟨hrun, hended, _, _, rfl, ?_, ⟨hEnd.1, hEnd.2.1, hEnd.2.2.1, hEnd.2.2.2.mono (by decide) (by decide)⟩, own_emR rfl (Em.warm M X2.warmed)⟩⟩
  show QSE1 Z a b kc vs dv h0 n0 _ T2.heap _
  exact ⟨t2, k2, rfl, N, K, Gq2_0, Gq2_1, Gq2_2⟩
def QSetrole (Z : State) (a : Addr) (o : Addr) (v0 : Value) (h0 : Heap) (n0 : Nat) (v : Option Value) (h : Heap) (L : List Loc) : Prop := v = some (.ref a) ∧ Fr n0 L ∧ Keep h0 h [a] ∧ Fld Z h a "com/example/fixity/fixity/engine/AccountRequest" "role" "Ljava/lang/String;" (.ref o) ∧ Fld Z h a "com/example/fixity/fixity/engine/AccountRequest" "unreadable" "Ljava/lang/String;" .null ∧ Fld Z h a "com/example/fixity/fixity/engine/AccountRequest" "disabled" "Ljava/lang/Boolean;" .null ∧ Fld Z h a "com/example/fixity/fixity/engine/AccountRequest" "workflowRoles" "Ljava/util/List;" .null
theorem ef_Setrole (m : MethodId) (a : Addr) (o : Addr) : entryFrame m #[(.ref a), (.ref o)] 2 = mkF m 0 #[.val (.ref a), .val (.ref o)] [] := by first | (simp [entryFrame, mkF, argsToLocals, Value.category]; done) | rfl | (rfl)
set_option maxRecDepth 65536 in
set_option maxHeartbeats 40000000 in
theorem rmSetrole (l : Launch) (Z : State) (a0 : Array Value) (hw : ∀ d ∈ tables_1, d.before a0 Z = true) (ws : List Jvm.Cond) (a : Addr) (o : Addr) (v0 : Value) (h0 : Heap) (n0 : Nat) (O : Old Z n0 h0) (E : Exa Z h0 a "com/example/fixity/fixity/engine/AccountRequest") (F0 : Fld Z h0 a "com/example/fixity/fixity/engine/AccountRequest" "role" "Ljava/lang/String;" v0) (F_unreadable : Fld Z h0 a "com/example/fixity/fixity/engine/AccountRequest" "unreadable" "Ljava/lang/String;" .null) (F_disabled : Fld Z h0 a "com/example/fixity/fixity/engine/AccountRequest" "disabled" "Ljava/lang/Boolean;" .null) (F_workflowRoles : Fld Z h0 a "com/example/fixity/fixity/engine/AccountRequest" "workflowRoles" "Ljava/util/List;" .null) (Eo : Exa Z h0 o "java/lang/String") (ga : n0 ≤ a) :
    MetFree l (⟨"com/example/fixity/fixity/engine/AccountRequest", "role", "(Ljava/lang/String;)Lcom/example/fixity/fixity/engine/AccountRequest;"⟩ : MethodName) (head1 (Jvm.Cond.code (⟨"com/example/fixity/fixity/engine/AccountRequest", "role", "(Ljava/lang/String;)Lcom/example/fixity/fixity/engine/AccountRequest;"⟩ : MethodName) prog_2_method_4_code 2 (some (.object "com/example/fixity/fixity/engine/AccountRequest")) :: ws) ({ frames := 1, cells := 2, slots := 24, locals := 14 } : Room)) (fun as_ U => as_ = #[(.ref a), (.ref o)] ∧ Z.Warmed39 U.vm ∧ U.heap = h0) (fun _ _ _ _ _ => True) (fun _ U oo_ U' => ∃ vv_ LL_, oo_ = .returned vv_ ∧ QSetrole Z a o v0 h0 n0 vv_ U'.heap LL_ ∧ ReturnedEndW U oo_ U' LL_ ({ frames := 1, cells := 2, slots := 24, locals := 14 } : Room).cells ({ frames := 1, cells := 2, slots := 24, locals := 14 } : Room).slots) := by
  refine MetFree.of_bodySF (plainFor_of_name pn_0) hisR ?_
  intro p e s m args below meth c s₁ Bd hml0 hP hK
  obtain ⟨rfl, hZ, hh⟩ := hP
  have hx := Bd.exec
  have hby := Bd.bytes
  have hml : c.maxLocals = 2 := hml0
  have hown : s.vm.findClass "com/example/fixity/fixity/engine/AccountRequest" = some m.cls := findClass_of_methodNamed Bd.named
  have hnm := (name_of_methodNamed Bd.named Bd.method).1
  have X0 : Stand p l e ({ frames := 1, cells := 2, slots := 24, locals := 14 } : Room) (s.setVm s.vm) m #[(.ref a), (.ref o)] below meth c s₁ [] 0 0 := Stand.of_body Bd
  have e0 : s₁.heap = h0 := by rw [← hh, Bd.state]; rfl
  have N := Fr.nil n0
  have hown : (s.setVm s.vm).vm.findClass "com/example/fixity/fixity/engine/AccountRequest" = some m.cls := hown
  have hZ : Z.Warmed39 (s.setVm s.vm).vm := hZ
  have hS : s.Since s.vm h0.size := (State.WarmedH.refl s).since _
  have hk : h0.size ≤ h0.size := Nat.le_refl _
  have K : Keep h0 h0 [a] := Keep.refl h0 _
  refine own_go (B := s₁.setTop (mkF m 0 #[.val (.ref a), .val (.ref o)] [])) (fun t k => castTop (ef_Setrole m a o) k) ?_
  refine own_abs (fun P hfin => ?_)
  refine own_go (B := s₁.setTop (mkF m 2 #[.val (.ref a), .val (.ref o)] [(.ref o), (.ref a)])) (fun t k => ?_) ?_
  · show Steps p.tables e below (s₁.setTop (mkF m 0 #[.val (.ref a), .val (.ref o)] [])) _
    refine XS.aloadN X0.here hx rfl (hb hby d_prog_2_method_4_0) rfl rfl ?_
    show Steps p.tables e below (s₁.setTop (mkF m 1 #[.val (.ref a), .val (.ref o)] [(.ref a)])) _
    refine XS.aloadN X0.here hx rfl (hb hby d_prog_2_method_4_1) rfl rfl ?_
    show Steps p.tables e below (s₁.setTop (mkF m 2 #[.val (.ref a), .val (.ref o)] [(.ref o), (.ref a)])) _
    exact k
  obtain ⟨b1, T1, h1, k1, X1, e1, E1, hS, hk', hZ, hown, st1⟩ := ldcS X0 hx hZ hown (hw _ (List.mem_of_getElem? (i := 70) rfl)) (fun d hd => hw d ((by decide +kernel : ∀ d ∈ Bundle.stringAtoms, d ∈ tables_1) d hd)) e0 hS hk (g := (mkF m 2 #[.val (.ref a), .val (.ref o)] [(.ref o), (.ref a)])) rfl (hb hby d_prog_2_method_4_2) (n := 20) (by decide) (by decide) (by decide) (by decide)
  replace E := E.ext E1
  replace F0 := F0.ext E1
  replace F_unreadable := F_unreadable.ext E1
  replace F_disabled := F_disabled.ext E1
  replace F_workflowRoles := F_workflowRoles.ext E1
  replace Eo := Eo.ext E1
  replace O := O.ext E1
  replace hk := Nat.le_trans hk E1.1
  replace K := K.ext E1
  replace hk := hk'
  refine own_go (B := T1.setTop (mkF m 4 #[.val (.ref a), .val (.ref o)] [(.ref b1), (.ref o), (.ref a)])) st1 ?_
  -- pc 4: java/util/Objects.requireNonNull
  obtain ⟨_, _, ⟨T2, L2, k2, n2⟩, -, X2, ⟨Lc2, hQ2, l2, y2, z2⟩, st2⟩ := Jvm.LawKit.callS X1 hx (y := (⟨"java/util/Objects", "requireNonNull", "(Ljava/lang/Object;Ljava/lang/String;)Ljava/lang/Object;"⟩ : MethodName)) hown (mvT hZ (hw _ (List.mem_of_getElem? (i := 71) rfl))) (mvT hZ (hw _ (List.mem_of_getElem? (i := 72) rfl))) (mvT hZ (hw _ (List.mem_of_getElem? (i := 73) rfl))) (mvT hZ (hw _ (List.mem_of_getElem? (i := 74) rfl))) (by decide) (backOf (W := 1) (rmRnn l Z a0 hw [] o b1 h1 n0 O ) hZ (hw _ (List.mem_of_getElem? (i := 74) rfl)) (hw _ (List.mem_of_getElem? (i := 73) rfl)) (by decide) (by decide)) (g := (mkF m 4 #[.val (.ref a), .val (.ref o)] [(.ref b1), (.ref o), (.ref a)])) rfl (by rw [hml]; rfl) (argsL := [(.ref o), (.ref b1)]) (rest := [(.ref a)]) (lenOf pd_3 rfl) rfl (by show 2 * 0 + _ ≤ _; exact Nat.le_of_eq rfl) (hb hby d_prog_2_method_4_4) (fun _ hWm => ⟨rfl, e1, (by decide : 2 + 0 ≤ _), (by decide : 24 + 0 ≤ _)⟩)
  dsimp only [Pt.U, Pt.locs, Pt.cells, Pt.slots] at X2 l2 y2 z2 st2 hQ2
  subst l2 y2 z2
  obtain ⟨rfl, Nq2, Kq2⟩ := hQ2
  replace N := Fr.app N Nq2
  refine own_go (B := T2.setTop (mkF m 7 #[.val (.ref a), .val (.ref o)] [(.ref o), (.ref a)])) st2 ?_
  obtain ⟨T3, X3, e3, st3⟩ := castY X2 hx hZ hown (hw _ (List.mem_of_getElem? (i := 75) rfl)) Kq2 (Ins.self Eo) (g := (mkF m 7 #[.val (.ref a), .val (.ref o)] [(.ref o), (.ref a)])) rfl rfl (hb hby d_prog_2_method_4_7)
  refine own_go (B := T3.setTop (mkF m 10 #[.val (.ref a), .val (.ref o)] [(.ref o), (.ref a)])) st3 ?_
  obtain ⟨T4, h4, X4, e4, W4, st4⟩ := putF X3 hx hZ hown (host := "") (Or.inl (hw _ (List.mem_of_getElem? (i := 51) rfl))) Via.refl e3 F0 E (Or.inl (hw _ (List.mem_of_getElem? (i := 52) rfl))) (hw _ (List.mem_of_getElem? (i := 38) rfl)) (ty := (.object "java/lang/String")) (by decide) rfl rfl (g := (mkF m 10 #[.val (.ref a), .val (.ref o)] [(.ref o), (.ref a)])) rfl rfl (hb hby d_prog_2_method_4_10)
  have Fw4 := F0.same W4
  replace E := E.wr W4
  clear F0
  replace F_unreadable := F_unreadable.other W4 (Or.inr (slot_ne (Or.inr (hw _ (List.mem_of_getElem? (i := 45) rfl))) (Or.inl (hw _ (List.mem_of_getElem? (i := 52) rfl))) (by decide) (t := (.object "java/lang/String")) (t' := (.object "java/lang/String")) (by decide) (by decide)))
  replace F_disabled := F_disabled.other W4 (Or.inr (slot_ne (Or.inl (hw _ (List.mem_of_getElem? (i := 104) rfl))) (Or.inl (hw _ (List.mem_of_getElem? (i := 52) rfl))) (by decide) (t := (.object "java/lang/Boolean")) (t' := (.object "java/lang/String")) (by decide) (by decide)))
  replace F_workflowRoles := F_workflowRoles.other W4 (Or.inr (slot_ne (Or.inl (hw _ (List.mem_of_getElem? (i := 111) rfl))) (Or.inl (hw _ (List.mem_of_getElem? (i := 52) rfl))) (by decide) (t := (.object "java/util/List")) (t' := (.object "java/lang/String")) (by decide) (by decide)))
  replace Eo := Eo.wr W4
  replace O := O.wr W4 ga
  replace hk := Nat.le_trans hk (Keep.of_wr W4).1
  replace K := K.wr W4 (Or.inl (List.mem_of_getElem? (i := 0) rfl))
  replace N := Fr.snoc X4 N ga
  refine own_go (B := T4.setTop (mkF m 13 #[.val (.ref a), .val (.ref o)] [])) st4 ?_
  refine own_go (B := T4.setTop (mkF m 14 #[.val (.ref a), .val (.ref o)] [(.ref a)])) (fun t k => ?_) ?_
  · show Steps p.tables e below (T4.setTop (mkF m 13 #[.val (.ref a), .val (.ref o)] [])) _
    refine XS.aloadN X4.here hx rfl (hb hby d_prog_2_method_4_13) rfl rfl ?_
    show Steps p.tables e below (T4.setTop (mkF m 14 #[.val (.ref a), .val (.ref o)] [(.ref a)])) _
    exact k
  obtain ⟨fs, hr, hrun, hended, hEnd⟩ := X4.leaveW hS (by rw [e4]; exact hk) (v := some (.ref a)) (fun h => by rw [Bd.returns] at h; cases h)
  refine ⟨_, _, own_retA X4 hx rfl Bd.returns rfl (hb hby d_prog_2_method_4_14) hr, hfin _ _ ⟨hrun, hended, _, _, rfl, ?_, hEnd.1, hEnd.2.1, hEnd.2.2.1, hEnd.2.2.2.mono (by decide) (by decide)⟩⟩
  show QSetrole Z a o v0 h0 n0 _ T4.heap _
  rw [e4]
  exact ⟨rfl, N, K, Fw4, F_unreadable, F_disabled, F_workflowRoles⟩
def QMk (Z : State) (p1 : Int32) (p2 : Int32) (zc : Int32) (h0 : Heap) (n0 : Nat) (v : Option Value) (h : Heap) (L : List Loc) : Prop := ∃ r : Addr, v = some (.ref r) ∧ Fr n0 L ∧ Keep h0 h [] ∧ h0.size ≤ r ∧ Exa Z h r "java/lang/String"
theorem ef_Mk (m : MethodId) (p1 : Int32) (p2 : Int32) : entryFrame m #[(.int p1), (.int p2)] 5 = mkF m 0 #[.val (.int p1), .val (.int p2), .unset, .unset, .unset] [] := by first | (simp [entryFrame, mkF, argsToLocals, Value.category]; done) | rfl | (rfl)
set_option maxRecDepth 65536 in
set_option maxHeartbeats 40000000 in
theorem rmMk (l : Launch) (Z : State) (a0 : Array Value) (hw : ∀ d ∈ tables_1, d.before a0 Z = true) (ws : List Jvm.Cond) (p1 : Int32) (p2 : Int32) (zc : Int32) (h0 : Heap) (n0 : Nat) (O : Old Z n0 h0) (S_C : Sta Z Z.heap "java/lang/String" "COMPACT_STRINGS" "Z" (.int zc)) (hcs : ¬ zc = (0 : Int32)) (hcH : Jvm.Lit.constHeld Z "java/lang/String" 7) (hcw : Jvm.Lit.compactW.before a0 Z = true) :
    MetFree l (⟨"com/example/fixity/fixity/engine/AccountRequestRolePinLaw", "mk", "(II)Ljava/lang/String;"⟩ : MethodName) (head1 (Jvm.Cond.code (⟨"com/example/fixity/fixity/engine/AccountRequestRolePinLaw", "mk", "(II)Ljava/lang/String;"⟩ : MethodName) method_3_code 5 (some (.object "java/lang/String")) :: ws) ({ frames := 4, cells := 4, slots := 10, locals := 66 } : Room)) (fun as_ U => as_ = #[(.int p1), (.int p2)] ∧ Z.Warmed39 U.vm ∧ U.heap = h0 ∧ Em Z U.vm h0) (fun _ _ _ _ _ => True) (fun _ U oo_ U' => ∃ vv_ LL_, oo_ = .returned vv_ ∧ QMk Z p1 p2 zc h0 n0 vv_ U'.heap LL_ ∧ ReturnedEndW U oo_ U' LL_ ({ frames := 4, cells := 4, slots := 10, locals := 66 } : Room).cells ({ frames := 4, cells := 4, slots := 10, locals := 66 } : Room).slots ∧ Em Z U'.vm U'.heap) := by
  refine MetFree.of_bodySF (plainFor_of_name pn_4) hisR ?_
  intro p e s m args below meth c s₁ Bd hml0 hP hK
  obtain ⟨rfl, hZ, hh, M⟩ := hP
  have hx := Bd.exec
  have hby := Bd.bytes
  have hml : c.maxLocals = 5 := hml0
  have hown : s.vm.findClass "com/example/fixity/fixity/engine/AccountRequestRolePinLaw" = some m.cls := findClass_of_methodNamed Bd.named
  have hnm := (name_of_methodNamed Bd.named Bd.method).1
  have X0 : Stand p l e ({ frames := 4, cells := 4, slots := 10, locals := 66 } : Room) (s.setVm s.vm) m #[(.int p1), (.int p2)] below meth c s₁ [] 0 0 := Stand.of_body Bd
  have e0 : s₁.heap = h0 := by rw [← hh, Bd.state]; rfl
  have N := Fr.nil n0
  have hown : (s.setVm s.vm).vm.findClass "com/example/fixity/fixity/engine/AccountRequestRolePinLaw" = some m.cls := hown
  have hZ : Z.Warmed39 (s.setVm s.vm).vm := hZ
  have hS : s.Since s.vm h0.size := (State.WarmedH.refl s).since _
  have hk : h0.size ≤ h0.size := Nat.le_refl _
  have K : Keep h0 h0 [] := Keep.refl h0 _
  refine own_go (B := s₁.setTop (mkF m 0 #[.val (.int p1), .val (.int p2), .unset, .unset, .unset] [])) (fun t k => castTop (ef_Mk m p1 p2) k) ?_
  have KM : Keep h0 h0 [] := Keep.refl h0 _
  refine own_abs (fun P hfin => ?_)
  refine own_go (B := s₁.setTop (mkF m 6 #[.val (.int p1), .val (.int p2), .unset, .unset, .unset] [(.int ((p1 &&& (255 : Int32)).toUInt32.toUInt16.toUInt32.toInt32))])) (fun t k => ?_) ?_
  · show Steps p.tables e below (s₁.setTop (mkF m 0 #[.val (.int p1), .val (.int p2), .unset, .unset, .unset] [])) _
    refine XS.iloadN X0.here hx rfl (hb hby d_method_3_0) rfl ?_
    show Steps p.tables e below (s₁.setTop (mkF m 1 #[.val (.int p1), .val (.int p2), .unset, .unset, .unset] [(.int p1)])) _
    refine XS.sipush X0.here hx rfl (hb hby d_method_3_1) ?_
    show Steps p.tables e below (s₁.setTop (mkF m 4 #[.val (.int p1), .val (.int p2), .unset, .unset, .unset] [(.int (255 : Int32)), (.int p1)])) _
    refine XS.iand X0.here hx rfl (hb hby d_method_3_4) rfl ?_
    show Steps p.tables e below (s₁.setTop (mkF m 5 #[.val (.int p1), .val (.int p2), .unset, .unset, .unset] [(.int (p1 &&& (255 : Int32)))])) _
    refine XS.i2c X0.here hx rfl (hb hby d_method_3_5) rfl ?_
    show Steps p.tables e below (s₁.setTop (mkF m 6 #[.val (.int p1), .val (.int p2), .unset, .unset, .unset] [(.int ((p1 &&& (255 : Int32)).toUInt32.toUInt16.toUInt32.toInt32))])) _
    exact k
  rw [i2c_mask]
  obtain ⟨c0, hc0⟩ : ∃ z : Int32, z = (p1 &&& (255 : Int32)) := ⟨_, rfl⟩
  rw [← hc0]
  have bc0 : ¬ c0 < 0 ∧ ¬ (255 : Int32) < c0 := by rw [hc0]; exact own_b255 _
  have cc0 : nar .char c0 = c0 := by rw [hc0]; exact i2c_mask _
  refine own_go (B := s₁.setTop (mkF m 16 #[.val (.int p1), .val (.int p2), .val (.int c0), .unset, .unset] [(.int ((((p1.toUInt32 >>> ((8 : Int32) &&& 31).toUInt32).toInt32) &&& (255 : Int32)).toUInt32.toUInt16.toUInt32.toInt32))])) (fun t k => ?_) ?_
  · show Steps p.tables e below (s₁.setTop (mkF m 6 #[.val (.int p1), .val (.int p2), .unset, .unset, .unset] [(.int c0)])) _
    refine XS.istoreN X0.here hx rfl (hb hby d_method_3_6) rfl (l' := #[.val (.int p1), .val (.int p2), .val (.int c0), .unset, .unset]) rfl ?_
    show Steps p.tables e below (s₁.setTop (mkF m 7 #[.val (.int p1), .val (.int p2), .val (.int c0), .unset, .unset] [])) _
    refine XS.iloadN X0.here hx rfl (hb hby d_method_3_7) rfl ?_
    show Steps p.tables e below (s₁.setTop (mkF m 8 #[.val (.int p1), .val (.int p2), .val (.int c0), .unset, .unset] [(.int p1)])) _
    refine XS.bipush X0.here hx rfl (hb hby d_method_3_8) ?_
    show Steps p.tables e below (s₁.setTop (mkF m 10 #[.val (.int p1), .val (.int p2), .val (.int c0), .unset, .unset] [(.int (8 : Int32)), (.int p1)])) _
    refine XS.iushr X0.here hx rfl (hb hby d_method_3_10) rfl ?_
    show Steps p.tables e below (s₁.setTop (mkF m 11 #[.val (.int p1), .val (.int p2), .val (.int c0), .unset, .unset] [(.int ((p1.toUInt32 >>> ((8 : Int32) &&& 31).toUInt32).toInt32))])) _
    refine XS.sipush X0.here hx rfl (hb hby d_method_3_11) ?_
    show Steps p.tables e below (s₁.setTop (mkF m 14 #[.val (.int p1), .val (.int p2), .val (.int c0), .unset, .unset] [(.int (255 : Int32)), (.int ((p1.toUInt32 >>> ((8 : Int32) &&& 31).toUInt32).toInt32))])) _
    refine XS.iand X0.here hx rfl (hb hby d_method_3_14) rfl ?_
    show Steps p.tables e below (s₁.setTop (mkF m 15 #[.val (.int p1), .val (.int p2), .val (.int c0), .unset, .unset] [(.int (((p1.toUInt32 >>> ((8 : Int32) &&& 31).toUInt32).toInt32) &&& (255 : Int32)))])) _
    refine XS.i2c X0.here hx rfl (hb hby d_method_3_15) rfl ?_
    show Steps p.tables e below (s₁.setTop (mkF m 16 #[.val (.int p1), .val (.int p2), .val (.int c0), .unset, .unset] [(.int ((((p1.toUInt32 >>> ((8 : Int32) &&& 31).toUInt32).toInt32) &&& (255 : Int32)).toUInt32.toUInt16.toUInt32.toInt32))])) _
    exact k
  rw [i2c_mask]
  obtain ⟨c1, hc1⟩ : ∃ z : Int32, z = (((p1.toUInt32 >>> ((8 : Int32) &&& 31).toUInt32).toInt32) &&& (255 : Int32)) := ⟨_, rfl⟩
  rw [← hc1]
  have bc1 : ¬ c1 < 0 ∧ ¬ (255 : Int32) < c1 := by rw [hc1]; exact own_b255 _
  have cc1 : nar .char c1 = c1 := by rw [hc1]; exact i2c_mask _
  refine own_go (B := s₁.setTop (mkF m 26 #[.val (.int p1), .val (.int p2), .val (.int c0), .val (.int c1), .unset] [(.int ((((p1.toUInt32 >>> ((16 : Int32) &&& 31).toUInt32).toInt32) &&& (255 : Int32)).toUInt32.toUInt16.toUInt32.toInt32))])) (fun t k => ?_) ?_
  · show Steps p.tables e below (s₁.setTop (mkF m 16 #[.val (.int p1), .val (.int p2), .val (.int c0), .unset, .unset] [(.int c1)])) _
    refine XS.istoreN X0.here hx rfl (hb hby d_method_3_16) rfl (l' := #[.val (.int p1), .val (.int p2), .val (.int c0), .val (.int c1), .unset]) rfl ?_
    show Steps p.tables e below (s₁.setTop (mkF m 17 #[.val (.int p1), .val (.int p2), .val (.int c0), .val (.int c1), .unset] [])) _
    refine XS.iloadN X0.here hx rfl (hb hby d_method_3_17) rfl ?_
    show Steps p.tables e below (s₁.setTop (mkF m 18 #[.val (.int p1), .val (.int p2), .val (.int c0), .val (.int c1), .unset] [(.int p1)])) _
    refine XS.bipush X0.here hx rfl (hb hby d_method_3_18) ?_
    show Steps p.tables e below (s₁.setTop (mkF m 20 #[.val (.int p1), .val (.int p2), .val (.int c0), .val (.int c1), .unset] [(.int (16 : Int32)), (.int p1)])) _
    refine XS.iushr X0.here hx rfl (hb hby d_method_3_20) rfl ?_
    show Steps p.tables e below (s₁.setTop (mkF m 21 #[.val (.int p1), .val (.int p2), .val (.int c0), .val (.int c1), .unset] [(.int ((p1.toUInt32 >>> ((16 : Int32) &&& 31).toUInt32).toInt32))])) _
    refine XS.sipush X0.here hx rfl (hb hby d_method_3_21) ?_
    show Steps p.tables e below (s₁.setTop (mkF m 24 #[.val (.int p1), .val (.int p2), .val (.int c0), .val (.int c1), .unset] [(.int (255 : Int32)), (.int ((p1.toUInt32 >>> ((16 : Int32) &&& 31).toUInt32).toInt32))])) _
    refine XS.iand X0.here hx rfl (hb hby d_method_3_24) rfl ?_
    show Steps p.tables e below (s₁.setTop (mkF m 25 #[.val (.int p1), .val (.int p2), .val (.int c0), .val (.int c1), .unset] [(.int (((p1.toUInt32 >>> ((16 : Int32) &&& 31).toUInt32).toInt32) &&& (255 : Int32)))])) _
    refine XS.i2c X0.here hx rfl (hb hby d_method_3_25) rfl ?_
    show Steps p.tables e below (s₁.setTop (mkF m 26 #[.val (.int p1), .val (.int p2), .val (.int c0), .val (.int c1), .unset] [(.int ((((p1.toUInt32 >>> ((16 : Int32) &&& 31).toUInt32).toInt32) &&& (255 : Int32)).toUInt32.toUInt16.toUInt32.toInt32))])) _
    exact k
  rw [i2c_mask]
  obtain ⟨c2, hc2⟩ : ∃ z : Int32, z = (((p1.toUInt32 >>> ((16 : Int32) &&& 31).toUInt32).toInt32) &&& (255 : Int32)) := ⟨_, rfl⟩
  rw [← hc2]
  have bc2 : ¬ c2 < 0 ∧ ¬ (255 : Int32) < c2 := by rw [hc2]; exact own_b255 _
  have cc2 : nar .char c2 = c2 := by rw [hc2]; exact i2c_mask _
  refine own_go (B := s₁.setTop (mkF m 29 #[.val (.int p1), .val (.int p2), .val (.int c0), .val (.int c1), .val (.int c2)] [(.int p2)])) (fun t k => ?_) ?_
  · show Steps p.tables e below (s₁.setTop (mkF m 26 #[.val (.int p1), .val (.int p2), .val (.int c0), .val (.int c1), .unset] [(.int c2)])) _
    refine XS.istore X0.here hx rfl (hb hby d_method_3_26) rfl (l' := #[.val (.int p1), .val (.int p2), .val (.int c0), .val (.int c1), .val (.int c2)]) rfl ?_
    show Steps p.tables e below (s₁.setTop (mkF m 28 #[.val (.int p1), .val (.int p2), .val (.int c0), .val (.int c1), .val (.int c2)] [])) _
    refine XS.iloadN X0.here hx rfl (hb hby d_method_3_28) rfl ?_
    show Steps p.tables e below (s₁.setTop (mkF m 29 #[.val (.int p1), .val (.int p2), .val (.int c0), .val (.int c1), .val (.int c2)] [(.int p2)])) _
    exact k
  by_cases l0 : p2 = (0 : Int32)
  · refine own_go (B := s₁.setTop (mkF m 32 #[.val (.int p1), .val (.int p2), .val (.int c0), .val (.int c1), .val (.int c2)] [])) (fun t k => ?_) ?_
    · show Steps p.tables e below (s₁.setTop (mkF m 29 #[.val (.int p1), .val (.int p2), .val (.int c0), .val (.int c1), .val (.int c2)] [(.int p2)])) _
      refine XS.ifNo X0.here hx rfl (hb hby d_method_3_29) rfl ((if0 _ _).trans (teq l0).2) ?_
      show Steps p.tables e below (s₁.setTop (mkF m 32 #[.val (.int p1), .val (.int p2), .val (.int c0), .val (.int c1), .val (.int c2)] [])) _
      exact k
    obtain ⟨T1, h1, X1, e1, E1, A1, D1, -, st1⟩ := newO X0 hx hZ hown (hw _ (List.mem_of_getElem? (i := 4) rfl)) (hw _ (List.mem_of_getElem? (i := 5) rfl)) (hw _ (List.mem_of_getElem? (i := 6) rfl)) e0 (g := (mkF m 32 #[.val (.int p1), .val (.int p2), .val (.int c0), .val (.int c1), .val (.int c2)] [])) rfl (hb hby d_method_3_32) (by decide) (by decide)
    obtain ⟨b1, g1⟩ : ∃ z, z = h0.size := ⟨_, rfl⟩
    rw [← g1] at A1 D1 st1
    have g_b1 : n0 ≤ b1 := Nat.le_trans (own_oldsz O) (Nat.le_of_eq g1.symm)
    have m_b1_1 : h0.size ≤ b1 := Nat.le_trans KM.1 (Nat.le_of_eq g1.symm)
    have s_b1 : h0.size ≤ b1 := Nat.le_trans K.1 (Nat.le_of_eq g1.symm)
    replace O := O.ext E1
    replace hk := Nat.le_trans hk E1.1
    replace KM := KM.ext E1
    replace K := K.ext E1
    have F1_coder : Fld Z h1 b1 "java/lang/String" "coder" "B" (.int (0 : Int32)) := D1 (Or.inr (hw _ (List.mem_of_getElem? (i := 31) rfl))) (ty := .byte) (by decide)
    have F1_value : Fld Z h1 b1 "java/lang/String" "value" "[B" .null := D1 (Or.inr (hw _ (List.mem_of_getElem? (i := 33) rfl))) (ty := (.array .byte)) (by decide)
    refine own_go (B := T1.setTop (mkF m 35 #[.val (.int p1), .val (.int p2), .val (.int c0), .val (.int c1), .val (.int c2)] [(.ref b1)])) st1 ?_
    refine own_go (B := T1.setTop (mkF m 37 #[.val (.int p1), .val (.int p2), .val (.int c0), .val (.int c1), .val (.int c2)] [(.int (0 : Int32)), (.ref b1), (.ref b1)])) (fun t k => ?_) ?_
    · show Steps p.tables e below (T1.setTop (mkF m 35 #[.val (.int p1), .val (.int p2), .val (.int c0), .val (.int c1), .val (.int c2)] [(.ref b1)])) _
      refine XS.dup X1.here hx rfl (hb hby d_method_3_35) rfl rfl ?_
      show Steps p.tables e below (T1.setTop (mkF m 36 #[.val (.int p1), .val (.int p2), .val (.int c0), .val (.int c1), .val (.int c2)] [(.ref b1), (.ref b1)])) _
      refine XS.iconst X1.here hx rfl (hb hby d_method_3_36) ?_
      show Steps p.tables e below (T1.setTop (mkF m 37 #[.val (.int p1), .val (.int p2), .val (.int c0), .val (.int c1), .val (.int c2)] [(.int (0 : Int32)), (.ref b1), (.ref b1)])) _
      exact k
    obtain ⟨T2, h2, k2, X2, e2, E2, A2, G2, st2⟩ := newPE X1 hx hZ (hw _ (List.mem_of_getElem? (i := 7) rfl)) e1 (g := (mkF m 37 #[.val (.int p1), .val (.int p2), .val (.int c0), .val (.int c1), .val (.int c2)] [(.int (0 : Int32)), (.ref b1), (.ref b1)])) rfl (hb hby d_method_3_37) rfl (by decide) (cap := 0) (by decide) (by decide) (by decide) (by decide) (ad := "[C") (by decide)
    obtain ⟨b2, g2⟩ : ∃ z, z = h1.size := ⟨_, rfl⟩
    rw [← g2] at A2 G2 st2
    have lt_b1_b2 : b1 < b2 := Nat.lt_of_lt_of_le A1.lt (Nat.le_of_eq g2.symm)
    have g_b2 : n0 ≤ b2 := Nat.le_trans (own_oldsz O) (Nat.le_of_eq g2.symm)
    have m_b2_2 : h0.size ≤ b2 := Nat.le_trans KM.1 (Nat.le_of_eq g2.symm)
    have s_b2 : h0.size ≤ b2 := Nat.le_trans K.1 (Nat.le_of_eq g2.symm)
    replace A1 := A1.ext E2
    replace F1_coder := F1_coder.ext E2
    replace F1_value := F1_value.ext E2
    replace O := O.ext E2
    replace hk := Nat.le_trans hk E2.1
    replace KM := KM.ext E2
    replace K := K.ext E2
    have V2 : Arv Z h2 b2 k2 .char (0 : Int32) [] (.int (0 : Int32)) := (Arv.new A2 (by decide)).pad (pad_rep [] (.int (0 : Int32)) 0)
    refine own_go (B := T2.setTop (mkF m 39 #[.val (.int p1), .val (.int p2), .val (.int c0), .val (.int c1), .val (.int c2)] [(.ref b2), (.ref b1), (.ref b1)])) st2 ?_
    -- pc 39: java/lang/String.<init>
    obtain ⟨_, _, ⟨T3, L3, k3, n3⟩, -, X3, hSq3, hgq3, ⟨Lc3, hQ3, l3, y3, z3⟩, st3⟩ := X2.specialBackS hx (y := (⟨"java/lang/String", "<init>", "([C)V"⟩ : MethodName)) rfl hown (mvT hZ (hw _ (List.mem_of_getElem? (i := 8) rfl))) (mvT hZ (hw _ (List.mem_of_getElem? (i := 9) rfl))) (mvT hZ (hw _ (List.mem_of_getElem? (i := 10) rfl))) (by decide) (own_backOfE (W := 1) (rmSE1 l Z a0 hw [] b1 b2 k2 ([]) (.int (0 : Int32)) h2 n0 O A1 F1_value F1_coder g_b1 V2 hcH hcw) hZ (hw _ (List.mem_of_getElem? (i := 10) rfl)) (hw _ (List.mem_of_getElem? (i := 6) rfl)) (by decide) (by decide)) (g := (mkF m 39 #[.val (.int p1), .val (.int p2), .val (.int c0), .val (.int c1), .val (.int c2)] [(.ref b2), (.ref b1), (.ref b1)])) rfl (by rw [hml]; rfl) (Steps.refl _) (a := b1) (argsL := [(.ref b2)]) (rest := [(.ref b1)]) (lenOf pd_4 rfl) rfl (by show 2 * 0 + _ ≤ _; exact Nat.le_of_eq rfl) (hb hby d_method_3_39) (fun _ hWm => ⟨rfl, e2, (by decide : 2 + 2 ≤ _), (by decide : 4 + 4 ≤ _), Em.warm (M.keep KM) hWm⟩)
    dsimp only [Pt.U, Pt.locs, Pt.cells, Pt.slots] at X3 l3 y3 z3 st3 hQ3 hSq3 hgq3
    subst l3 y3 z3
    obtain ⟨X3, hS, hZ, hown⟩ := rebS hS (by rw [e2]; exact hk) X3 hSq3 hgq3 hZ hown
    obtain ⟨⟨t3, k3, rfl, Nq3, Kq3, Gq3_0, Gq3_1, Gq3_2⟩, M⟩ := hQ3
    replace N := Fr.app N Nq3
    replace A1 := A1.keep Kq3
    clear F1_coder
    clear F1_value
    replace G2 := G2.keep Kq3
    replace V2 := V2.keep Kq3 (ninS (Nat.ne_of_gt lt_b1_b2) nin0)
    replace O := O.keep Kq3 (allS g_b1 all0)
    replace K := K.trans Kq3 (allS (Or.inr s_b1) all0)
    have hk : T3.heap.size ≤ T3.heap.size := Nat.le_refl _
    have KM : Keep T3.heap T3.heap [] := Keep.refl _ _
    refine own_go (B := T3.setTop (mkF m 42 #[.val (.int p1), .val (.int p2), .val (.int c0), .val (.int c1), .val (.int c2)] [(.ref b1)])) (fun t k => st3.trans k) ?_
    obtain ⟨fs, hr, hrun, hended, hEnd⟩ := X3.leaveW hS hk (v := some (.ref b1)) (fun h => by rw [Bd.returns] at h; cases h)
    refine ⟨_, _, own_retA X3 hx rfl Bd.returns rfl (hb hby d_method_3_42) hr, hfin _ _ ⟨hrun, hended, _, _, rfl, ?_, ⟨hEnd.1, hEnd.2.1, hEnd.2.2.1, hEnd.2.2.2.mono (by decide) (by decide)⟩, own_emR rfl (Em.warm M X3.warmed)⟩⟩
    show QMk Z p1 p2 zc h0 n0 _ T3.heap _
    exact ⟨b1, rfl, N, K, s_b1, A1⟩
  · refine own_go (B := s₁.setTop (mkF m 45 #[.val (.int p1), .val (.int p2), .val (.int c0), .val (.int c1), .val (.int c2)] [(.int (1 : Int32)), (.int p2)])) (fun t k => ?_) ?_
    · show Steps p.tables e below (s₁.setTop (mkF m 29 #[.val (.int p1), .val (.int p2), .val (.int c0), .val (.int c1), .val (.int c2)] [(.int p2)])) _
      refine XS.ifYes X0.here hx rfl (pc0 := 29) (pc' := 43) rfl (hb hby d_method_3_29) rfl ((if0 _ _).trans (feq l0).2) (by decide) (by decide) ?_
      show Steps p.tables e below (s₁.setTop (mkF m 43 #[.val (.int p1), .val (.int p2), .val (.int c0), .val (.int c1), .val (.int c2)] [])) _
      refine XS.iloadN X0.here hx rfl (hb hby d_method_3_43) rfl ?_
      show Steps p.tables e below (s₁.setTop (mkF m 44 #[.val (.int p1), .val (.int p2), .val (.int c0), .val (.int c1), .val (.int c2)] [(.int p2)])) _
      refine XS.iconst X0.here hx rfl (hb hby d_method_3_44) ?_
      show Steps p.tables e below (s₁.setTop (mkF m 45 #[.val (.int p1), .val (.int p2), .val (.int c0), .val (.int c1), .val (.int c2)] [(.int (1 : Int32)), (.int p2)])) _
      exact k
    by_cases l1 : p2 = (1 : Int32)
    · refine own_go (B := s₁.setTop (mkF m 48 #[.val (.int p1), .val (.int p2), .val (.int c0), .val (.int c1), .val (.int c2)] [])) (fun t k => ?_) ?_
      · show Steps p.tables e below (s₁.setTop (mkF m 45 #[.val (.int p1), .val (.int p2), .val (.int c0), .val (.int c1), .val (.int c2)] [(.int (1 : Int32)), (.int p2)])) _
        refine XS.icmpNo X0.here hx rfl (hb hby d_method_3_45) rfl (teq l1).2 ?_
        show Steps p.tables e below (s₁.setTop (mkF m 48 #[.val (.int p1), .val (.int p2), .val (.int c0), .val (.int c1), .val (.int c2)] [])) _
        exact k
      obtain ⟨T5, h5, X5, e5, E5, A5, D5, -, st5⟩ := newO X0 hx hZ hown (hw _ (List.mem_of_getElem? (i := 4) rfl)) (hw _ (List.mem_of_getElem? (i := 5) rfl)) (hw _ (List.mem_of_getElem? (i := 6) rfl)) e0 (g := (mkF m 48 #[.val (.int p1), .val (.int p2), .val (.int c0), .val (.int c1), .val (.int c2)] [])) rfl (hb hby d_method_3_48) (by decide) (by decide)
      obtain ⟨b5, g5⟩ : ∃ z, z = h0.size := ⟨_, rfl⟩
      rw [← g5] at A5 D5 st5
      have g_b5 : n0 ≤ b5 := Nat.le_trans (own_oldsz O) (Nat.le_of_eq g5.symm)
      have m_b5_5 : h0.size ≤ b5 := Nat.le_trans KM.1 (Nat.le_of_eq g5.symm)
      have s_b5 : h0.size ≤ b5 := Nat.le_trans K.1 (Nat.le_of_eq g5.symm)
      replace O := O.ext E5
      replace hk := Nat.le_trans hk E5.1
      replace KM := KM.ext E5
      replace K := K.ext E5
      have F5_coder : Fld Z h5 b5 "java/lang/String" "coder" "B" (.int (0 : Int32)) := D5 (Or.inr (hw _ (List.mem_of_getElem? (i := 31) rfl))) (ty := .byte) (by decide)
      have F5_value : Fld Z h5 b5 "java/lang/String" "value" "[B" .null := D5 (Or.inr (hw _ (List.mem_of_getElem? (i := 33) rfl))) (ty := (.array .byte)) (by decide)
      refine own_go (B := T5.setTop (mkF m 51 #[.val (.int p1), .val (.int p2), .val (.int c0), .val (.int c1), .val (.int c2)] [(.ref b5)])) st5 ?_
      refine own_go (B := T5.setTop (mkF m 53 #[.val (.int p1), .val (.int p2), .val (.int c0), .val (.int c1), .val (.int c2)] [(.int (1 : Int32)), (.ref b5), (.ref b5)])) (fun t k => ?_) ?_
      · show Steps p.tables e below (T5.setTop (mkF m 51 #[.val (.int p1), .val (.int p2), .val (.int c0), .val (.int c1), .val (.int c2)] [(.ref b5)])) _
        refine XS.dup X5.here hx rfl (hb hby d_method_3_51) rfl rfl ?_
        show Steps p.tables e below (T5.setTop (mkF m 52 #[.val (.int p1), .val (.int p2), .val (.int c0), .val (.int c1), .val (.int c2)] [(.ref b5), (.ref b5)])) _
        refine XS.iconst X5.here hx rfl (hb hby d_method_3_52) ?_
        show Steps p.tables e below (T5.setTop (mkF m 53 #[.val (.int p1), .val (.int p2), .val (.int c0), .val (.int c1), .val (.int c2)] [(.int (1 : Int32)), (.ref b5), (.ref b5)])) _
        exact k
      obtain ⟨T6, h6, k6, X6, e6, E6, A6, G6, st6⟩ := newPE X5 hx hZ (hw _ (List.mem_of_getElem? (i := 7) rfl)) e5 (g := (mkF m 53 #[.val (.int p1), .val (.int p2), .val (.int c0), .val (.int c1), .val (.int c2)] [(.int (1 : Int32)), (.ref b5), (.ref b5)])) rfl (hb hby d_method_3_53) rfl (by decide) (cap := 1) (by decide) (by decide) (by decide) (by decide) (ad := "[C") (by decide)
      obtain ⟨b6, g6⟩ : ∃ z, z = h5.size := ⟨_, rfl⟩
      rw [← g6] at A6 G6 st6
      have lt_b5_b6 : b5 < b6 := Nat.lt_of_lt_of_le A5.lt (Nat.le_of_eq g6.symm)
      have g_b6 : n0 ≤ b6 := Nat.le_trans (own_oldsz O) (Nat.le_of_eq g6.symm)
      have m_b6_6 : h0.size ≤ b6 := Nat.le_trans KM.1 (Nat.le_of_eq g6.symm)
      have s_b6 : h0.size ≤ b6 := Nat.le_trans K.1 (Nat.le_of_eq g6.symm)
      replace A5 := A5.ext E6
      replace F5_coder := F5_coder.ext E6
      replace F5_value := F5_value.ext E6
      replace O := O.ext E6
      replace hk := Nat.le_trans hk E6.1
      replace KM := KM.ext E6
      replace K := K.ext E6
      have V6 : Arv Z h6 b6 k6 .char (1 : Int32) [(.int (0 : Int32))] (.int (0 : Int32)) := (Arv.new A6 (by decide)).pad (pad_rep [] (.int (0 : Int32)) 1)
      refine own_go (B := T6.setTop (mkF m 55 #[.val (.int p1), .val (.int p2), .val (.int c0), .val (.int c1), .val (.int c2)] [(.ref b6), (.ref b5), (.ref b5)])) st6 ?_
      refine own_go (B := T6.setTop (mkF m 58 #[.val (.int p1), .val (.int p2), .val (.int c0), .val (.int c1), .val (.int c2)] [(.int c0), (.int (0 : Int32)), (.ref b6), (.ref b6), (.ref b5), (.ref b5)])) (fun t k => ?_) ?_
      · show Steps p.tables e below (T6.setTop (mkF m 55 #[.val (.int p1), .val (.int p2), .val (.int c0), .val (.int c1), .val (.int c2)] [(.ref b6), (.ref b5), (.ref b5)])) _
        refine XS.dup X6.here hx rfl (hb hby d_method_3_55) rfl rfl ?_
        show Steps p.tables e below (T6.setTop (mkF m 56 #[.val (.int p1), .val (.int p2), .val (.int c0), .val (.int c1), .val (.int c2)] [(.ref b6), (.ref b6), (.ref b5), (.ref b5)])) _
        refine XS.iconst X6.here hx rfl (hb hby d_method_3_56) ?_
        show Steps p.tables e below (T6.setTop (mkF m 57 #[.val (.int p1), .val (.int p2), .val (.int c0), .val (.int c1), .val (.int c2)] [(.int (0 : Int32)), (.ref b6), (.ref b6), (.ref b5), (.ref b5)])) _
        refine XS.iloadN X6.here hx rfl (hb hby d_method_3_57) rfl ?_
        show Steps p.tables e below (T6.setTop (mkF m 58 #[.val (.int p1), .val (.int p2), .val (.int c0), .val (.int c1), .val (.int c2)] [(.int c0), (.int (0 : Int32)), (.ref b6), (.ref b6), (.ref b5), (.ref b5)])) _
        exact k
      obtain ⟨cl7, Ar7, q7, Sz7, Nn7, Hs7, Gt7⟩ := V6
      have hin7 : ¬ ((0 : Int32) < 0 ∨ cl7.slots.size ≤ ((0 : Int32)).toNatClampNeg) := inb_of Sz7 ⟨by decide, by decide⟩
      obtain ⟨T7, h7, X7, e7, W7, st7⟩ := stC X6 hx hZ e6 Ar7 (j := (0 : Int32)) hin7 (g := (mkF m 58 #[.val (.int p1), .val (.int p2), .val (.int c0), .val (.int c1), .val (.int c2)] [(.int c0), (.int (0 : Int32)), (.ref b6), (.ref b6), (.ref b5), (.ref b5)])) rfl rfl (hb hby d_method_3_58)
      have V7 := Arv.set Ar7 q7 Sz7 Nn7 Hs7 Gt7 (fits_nar_char _) W7 0 rfl (Nat.le_of_ble_eq_true rfl)
      rw [cc0] at V7
      have V7 : Arv Z h7 b6 k6 .char (1 : Int32) [(.int c0)] (.int (0 : Int32)) := V7
      replace A5 := A5.wr W7
      replace F5_coder := F5_coder.other W7 (Or.inl (Nat.ne_of_lt lt_b5_b6))
      replace F5_value := F5_value.other W7 (Or.inl (Nat.ne_of_lt lt_b5_b6))
      replace G6 := G6.wr W7
      replace O := O.wr W7 g_b6
      replace hk := Nat.le_trans hk (Keep.of_wr W7).1
      replace KM := KM.wr W7 (Or.inr m_b6_6)
      replace K := K.wr W7 (Or.inr s_b6)
      replace N := Fr.snoc X7 N g_b6
      refine own_go (B := T7.setTop (mkF m 59 #[.val (.int p1), .val (.int p2), .val (.int c0), .val (.int c1), .val (.int c2)] [(.ref b6), (.ref b5), (.ref b5)])) st7 ?_
      have := bc0
      have hws : ∀ d ∈ StrChars.Road.words, d.before a0 Z = true := fun d hd => hw d ((by decide +kernel : ∀ d ∈ StrChars.Road.words, d ∈ tables_1) d hd)
      -- pc 59: java/lang/String.<init>
      obtain ⟨_, _, ⟨T8, L8, k8, n8⟩, -, X8, ⟨Lc8, hQ8, l8, y8, z8⟩, st8⟩ := X7.specialBack hx (y := (⟨"java/lang/String", "<init>", "([C)V"⟩ : MethodName)) rfl hown (mvT hZ (hw _ (List.mem_of_getElem? (i := 8) rfl))) (mvT hZ (hw _ (List.mem_of_getElem? (i := 9) rfl))) (mvT hZ (hw _ (List.mem_of_getElem? (i := 10) rfl))) (by decide) (StrChars.Road.backV (W := 1) hZ hws (kI := 4) (hw _ (List.mem_of_getElem? (i := 5) rfl)) (cs := ([c0] : List Int32)) (bs := ([c0] : List Int32).map (fun c => c.toInt8.toInt32)) (n := 1) g_b5 (own_oldsz O) A5 F5_value F5_coder V7 (S_C.ext O.2) hcs rfl rfl (by decide) (by decide) (by intro c hc; simp only [List.mem_cons, List.not_mem_nil, or_false] at hc; subst hc; assumption) rfl (by decide) (by decide)) (g := (mkF m 59 #[.val (.int p1), .val (.int p2), .val (.int c0), .val (.int c1), .val (.int c2)] [(.ref b6), (.ref b5), (.ref b5)])) rfl (by rw [hml]; rfl) (Steps.refl _) (a := b5) (argsL := [(.ref b6)]) (rest := [(.ref b5)]) (lenOf pd_4 rfl) rfl (by show 2 * 0 + _ ≤ _; exact Nat.le_of_eq rfl) (hb hby d_method_3_59) (fun _ hWm => ⟨rfl, e7, (by decide : 2 + 1 ≤ _), (by decide : 5 + 1 ≤ _)⟩)
      dsimp only [Pt.U, Pt.locs, Pt.cells, Pt.slots] at X8 l8 y8 z8 st8 hQ8
      subst l8 y8 z8
      obtain ⟨rfl, Nq8, Kq8, Gq8_0, Gq8_1, t8, kb8, u8, fq8, nq8, Gq8_2, Gq8_3⟩ := hQ8
      replace N := Fr.app N Nq8
      have lt_b5_t8 : b5 < t8 := Nat.lt_of_lt_of_le A5.lt fq8
      have lt_b6_t8 : b6 < t8 := Nat.lt_of_lt_of_le G6.lt fq8
      have g_t8 : n0 ≤ t8 := Nat.le_trans (own_oldsz O) fq8
      have m_t8_8 : h0.size ≤ t8 := Nat.le_trans KM.1 fq8
      have s_t8 : h0.size ≤ t8 := Nat.le_trans K.1 fq8
      replace A5 := A5.keep Kq8
      clear F5_coder
      clear F5_value
      replace G6 := G6.keep Kq8
      replace V7 := V7.keep Kq8 (ninS (Nat.ne_of_gt lt_b5_b6) nin0)
      replace O := O.keep Kq8 (allS g_b5 all0)
      replace hk := Nat.le_trans hk Kq8.1
      replace KM := KM.trans Kq8 (allS (Or.inr m_b5_5) all0)
      replace K := K.trans Kq8 (allS (Or.inr s_b5) all0)
      refine own_go (B := T8.setTop (mkF m 62 #[.val (.int p1), .val (.int p2), .val (.int c0), .val (.int c1), .val (.int c2)] [(.ref b5)])) (fun t k => st8.trans k) ?_
      obtain ⟨fs, hr, hrun, hended, hEnd⟩ := X8.leaveW hS hk (v := some (.ref b5)) (fun h => by rw [Bd.returns] at h; cases h)
      refine ⟨_, _, own_retA X8 hx rfl Bd.returns rfl (hb hby d_method_3_62) hr, hfin _ _ ⟨hrun, hended, _, _, rfl, ?_, ⟨hEnd.1, hEnd.2.1, hEnd.2.2.1, hEnd.2.2.2.mono (by decide) (by decide)⟩, own_emR rfl (Em.warm (M.keep KM) X8.warmed)⟩⟩
      show QMk Z p1 p2 zc h0 n0 _ T8.heap _
      exact ⟨b5, rfl, N, K, s_b5, Gq8_0⟩
    · refine own_go (B := s₁.setTop (mkF m 65 #[.val (.int p1), .val (.int p2), .val (.int c0), .val (.int c1), .val (.int c2)] [(.int (2 : Int32)), (.int p2)])) (fun t k => ?_) ?_
      · show Steps p.tables e below (s₁.setTop (mkF m 45 #[.val (.int p1), .val (.int p2), .val (.int c0), .val (.int c1), .val (.int c2)] [(.int (1 : Int32)), (.int p2)])) _
        refine XS.icmpYes X0.here hx rfl (pc0 := 45) (pc' := 63) rfl (hb hby d_method_3_45) rfl (feq l1).2 (by decide) (by decide) ?_
        show Steps p.tables e below (s₁.setTop (mkF m 63 #[.val (.int p1), .val (.int p2), .val (.int c0), .val (.int c1), .val (.int c2)] [])) _
        refine XS.iloadN X0.here hx rfl (hb hby d_method_3_63) rfl ?_
        show Steps p.tables e below (s₁.setTop (mkF m 64 #[.val (.int p1), .val (.int p2), .val (.int c0), .val (.int c1), .val (.int c2)] [(.int p2)])) _
        refine XS.iconst X0.here hx rfl (hb hby d_method_3_64) ?_
        show Steps p.tables e below (s₁.setTop (mkF m 65 #[.val (.int p1), .val (.int p2), .val (.int c0), .val (.int c1), .val (.int c2)] [(.int (2 : Int32)), (.int p2)])) _
        exact k
      by_cases l2 : p2 = (2 : Int32)
      · refine own_go (B := s₁.setTop (mkF m 68 #[.val (.int p1), .val (.int p2), .val (.int c0), .val (.int c1), .val (.int c2)] [])) (fun t k => ?_) ?_
        · show Steps p.tables e below (s₁.setTop (mkF m 65 #[.val (.int p1), .val (.int p2), .val (.int c0), .val (.int c1), .val (.int c2)] [(.int (2 : Int32)), (.int p2)])) _
          refine XS.icmpNo X0.here hx rfl (hb hby d_method_3_65) rfl (teq l2).2 ?_
          show Steps p.tables e below (s₁.setTop (mkF m 68 #[.val (.int p1), .val (.int p2), .val (.int c0), .val (.int c1), .val (.int c2)] [])) _
          exact k
        obtain ⟨T10, h10, X10, e10, E10, A10, D10, -, st10⟩ := newO X0 hx hZ hown (hw _ (List.mem_of_getElem? (i := 4) rfl)) (hw _ (List.mem_of_getElem? (i := 5) rfl)) (hw _ (List.mem_of_getElem? (i := 6) rfl)) e0 (g := (mkF m 68 #[.val (.int p1), .val (.int p2), .val (.int c0), .val (.int c1), .val (.int c2)] [])) rfl (hb hby d_method_3_68) (by decide) (by decide)
        obtain ⟨b10, g10⟩ : ∃ z, z = h0.size := ⟨_, rfl⟩
        rw [← g10] at A10 D10 st10
        have g_b10 : n0 ≤ b10 := Nat.le_trans (own_oldsz O) (Nat.le_of_eq g10.symm)
        have m_b10_10 : h0.size ≤ b10 := Nat.le_trans KM.1 (Nat.le_of_eq g10.symm)
        have s_b10 : h0.size ≤ b10 := Nat.le_trans K.1 (Nat.le_of_eq g10.symm)
        replace O := O.ext E10
        replace hk := Nat.le_trans hk E10.1
        replace KM := KM.ext E10
        replace K := K.ext E10
        have F10_coder : Fld Z h10 b10 "java/lang/String" "coder" "B" (.int (0 : Int32)) := D10 (Or.inr (hw _ (List.mem_of_getElem? (i := 31) rfl))) (ty := .byte) (by decide)
        have F10_value : Fld Z h10 b10 "java/lang/String" "value" "[B" .null := D10 (Or.inr (hw _ (List.mem_of_getElem? (i := 33) rfl))) (ty := (.array .byte)) (by decide)
        refine own_go (B := T10.setTop (mkF m 71 #[.val (.int p1), .val (.int p2), .val (.int c0), .val (.int c1), .val (.int c2)] [(.ref b10)])) st10 ?_
        refine own_go (B := T10.setTop (mkF m 73 #[.val (.int p1), .val (.int p2), .val (.int c0), .val (.int c1), .val (.int c2)] [(.int (2 : Int32)), (.ref b10), (.ref b10)])) (fun t k => ?_) ?_
        · show Steps p.tables e below (T10.setTop (mkF m 71 #[.val (.int p1), .val (.int p2), .val (.int c0), .val (.int c1), .val (.int c2)] [(.ref b10)])) _
          refine XS.dup X10.here hx rfl (hb hby d_method_3_71) rfl rfl ?_
          show Steps p.tables e below (T10.setTop (mkF m 72 #[.val (.int p1), .val (.int p2), .val (.int c0), .val (.int c1), .val (.int c2)] [(.ref b10), (.ref b10)])) _
          refine XS.iconst X10.here hx rfl (hb hby d_method_3_72) ?_
          show Steps p.tables e below (T10.setTop (mkF m 73 #[.val (.int p1), .val (.int p2), .val (.int c0), .val (.int c1), .val (.int c2)] [(.int (2 : Int32)), (.ref b10), (.ref b10)])) _
          exact k
        obtain ⟨T11, h11, k11, X11, e11, E11, A11, G11, st11⟩ := newPE X10 hx hZ (hw _ (List.mem_of_getElem? (i := 7) rfl)) e10 (g := (mkF m 73 #[.val (.int p1), .val (.int p2), .val (.int c0), .val (.int c1), .val (.int c2)] [(.int (2 : Int32)), (.ref b10), (.ref b10)])) rfl (hb hby d_method_3_73) rfl (by decide) (cap := 2) (by decide) (by decide) (by decide) (by decide) (ad := "[C") (by decide)
        obtain ⟨b11, g11⟩ : ∃ z, z = h10.size := ⟨_, rfl⟩
        rw [← g11] at A11 G11 st11
        have lt_b10_b11 : b10 < b11 := Nat.lt_of_lt_of_le A10.lt (Nat.le_of_eq g11.symm)
        have g_b11 : n0 ≤ b11 := Nat.le_trans (own_oldsz O) (Nat.le_of_eq g11.symm)
        have m_b11_11 : h0.size ≤ b11 := Nat.le_trans KM.1 (Nat.le_of_eq g11.symm)
        have s_b11 : h0.size ≤ b11 := Nat.le_trans K.1 (Nat.le_of_eq g11.symm)
        replace A10 := A10.ext E11
        replace F10_coder := F10_coder.ext E11
        replace F10_value := F10_value.ext E11
        replace O := O.ext E11
        replace hk := Nat.le_trans hk E11.1
        replace KM := KM.ext E11
        replace K := K.ext E11
        have V11 : Arv Z h11 b11 k11 .char (2 : Int32) [(.int (0 : Int32)), (.int (0 : Int32))] (.int (0 : Int32)) := (Arv.new A11 (by decide)).pad (pad_rep [] (.int (0 : Int32)) 2)
        refine own_go (B := T11.setTop (mkF m 75 #[.val (.int p1), .val (.int p2), .val (.int c0), .val (.int c1), .val (.int c2)] [(.ref b11), (.ref b10), (.ref b10)])) st11 ?_
        refine own_go (B := T11.setTop (mkF m 78 #[.val (.int p1), .val (.int p2), .val (.int c0), .val (.int c1), .val (.int c2)] [(.int c0), (.int (0 : Int32)), (.ref b11), (.ref b11), (.ref b10), (.ref b10)])) (fun t k => ?_) ?_
        · show Steps p.tables e below (T11.setTop (mkF m 75 #[.val (.int p1), .val (.int p2), .val (.int c0), .val (.int c1), .val (.int c2)] [(.ref b11), (.ref b10), (.ref b10)])) _
          refine XS.dup X11.here hx rfl (hb hby d_method_3_75) rfl rfl ?_
          show Steps p.tables e below (T11.setTop (mkF m 76 #[.val (.int p1), .val (.int p2), .val (.int c0), .val (.int c1), .val (.int c2)] [(.ref b11), (.ref b11), (.ref b10), (.ref b10)])) _
          refine XS.iconst X11.here hx rfl (hb hby d_method_3_76) ?_
          show Steps p.tables e below (T11.setTop (mkF m 77 #[.val (.int p1), .val (.int p2), .val (.int c0), .val (.int c1), .val (.int c2)] [(.int (0 : Int32)), (.ref b11), (.ref b11), (.ref b10), (.ref b10)])) _
          refine XS.iloadN X11.here hx rfl (hb hby d_method_3_77) rfl ?_
          show Steps p.tables e below (T11.setTop (mkF m 78 #[.val (.int p1), .val (.int p2), .val (.int c0), .val (.int c1), .val (.int c2)] [(.int c0), (.int (0 : Int32)), (.ref b11), (.ref b11), (.ref b10), (.ref b10)])) _
          exact k
        obtain ⟨cl12, Ar12, q12, Sz12, Nn12, Hs12, Gt12⟩ := V11
        have hin12 : ¬ ((0 : Int32) < 0 ∨ cl12.slots.size ≤ ((0 : Int32)).toNatClampNeg) := inb_of Sz12 ⟨by decide, by decide⟩
        obtain ⟨T12, h12, X12, e12, W12, st12⟩ := stC X11 hx hZ e11 Ar12 (j := (0 : Int32)) hin12 (g := (mkF m 78 #[.val (.int p1), .val (.int p2), .val (.int c0), .val (.int c1), .val (.int c2)] [(.int c0), (.int (0 : Int32)), (.ref b11), (.ref b11), (.ref b10), (.ref b10)])) rfl rfl (hb hby d_method_3_78)
        have V12 := Arv.set Ar12 q12 Sz12 Nn12 Hs12 Gt12 (fits_nar_char _) W12 0 rfl (Nat.le_of_ble_eq_true rfl)
        rw [cc0] at V12
        have V12 : Arv Z h12 b11 k11 .char (2 : Int32) [(.int c0), (.int (0 : Int32))] (.int (0 : Int32)) := V12
        replace A10 := A10.wr W12
        replace F10_coder := F10_coder.other W12 (Or.inl (Nat.ne_of_lt lt_b10_b11))
        replace F10_value := F10_value.other W12 (Or.inl (Nat.ne_of_lt lt_b10_b11))
        replace G11 := G11.wr W12
        replace O := O.wr W12 g_b11
        replace hk := Nat.le_trans hk (Keep.of_wr W12).1
        replace KM := KM.wr W12 (Or.inr m_b11_11)
        replace K := K.wr W12 (Or.inr s_b11)
        replace N := Fr.snoc X12 N g_b11
        refine own_go (B := T12.setTop (mkF m 79 #[.val (.int p1), .val (.int p2), .val (.int c0), .val (.int c1), .val (.int c2)] [(.ref b11), (.ref b10), (.ref b10)])) st12 ?_
        refine own_go (B := T12.setTop (mkF m 82 #[.val (.int p1), .val (.int p2), .val (.int c0), .val (.int c1), .val (.int c2)] [(.int c1), (.int (1 : Int32)), (.ref b11), (.ref b11), (.ref b10), (.ref b10)])) (fun t k => ?_) ?_
        · show Steps p.tables e below (T12.setTop (mkF m 79 #[.val (.int p1), .val (.int p2), .val (.int c0), .val (.int c1), .val (.int c2)] [(.ref b11), (.ref b10), (.ref b10)])) _
          refine XS.dup X12.here hx rfl (hb hby d_method_3_79) rfl rfl ?_
          show Steps p.tables e below (T12.setTop (mkF m 80 #[.val (.int p1), .val (.int p2), .val (.int c0), .val (.int c1), .val (.int c2)] [(.ref b11), (.ref b11), (.ref b10), (.ref b10)])) _
          refine XS.iconst X12.here hx rfl (hb hby d_method_3_80) ?_
          show Steps p.tables e below (T12.setTop (mkF m 81 #[.val (.int p1), .val (.int p2), .val (.int c0), .val (.int c1), .val (.int c2)] [(.int (1 : Int32)), (.ref b11), (.ref b11), (.ref b10), (.ref b10)])) _
          refine XS.iloadN X12.here hx rfl (hb hby d_method_3_81) rfl ?_
          show Steps p.tables e below (T12.setTop (mkF m 82 #[.val (.int p1), .val (.int p2), .val (.int c0), .val (.int c1), .val (.int c2)] [(.int c1), (.int (1 : Int32)), (.ref b11), (.ref b11), (.ref b10), (.ref b10)])) _
          exact k
        obtain ⟨cl13, Ar13, q13, Sz13, Nn13, Hs13, Gt13⟩ := V12
        have hin13 : ¬ ((1 : Int32) < 0 ∨ cl13.slots.size ≤ ((1 : Int32)).toNatClampNeg) := inb_of Sz13 ⟨by decide, by decide⟩
        obtain ⟨T13, h13, X13, e13, W13, st13⟩ := stC X12 hx hZ e12 Ar13 (j := (1 : Int32)) hin13 (g := (mkF m 82 #[.val (.int p1), .val (.int p2), .val (.int c0), .val (.int c1), .val (.int c2)] [(.int c1), (.int (1 : Int32)), (.ref b11), (.ref b11), (.ref b10), (.ref b10)])) rfl rfl (hb hby d_method_3_82)
        have V13 := Arv.set Ar13 q13 Sz13 Nn13 Hs13 Gt13 (fits_nar_char _) W13 1 rfl (Nat.le_of_ble_eq_true rfl)
        rw [cc1] at V13
        have V13 : Arv Z h13 b11 k11 .char (2 : Int32) [(.int c0), (.int c1)] (.int (0 : Int32)) := V13
        replace A10 := A10.wr W13
        replace F10_coder := F10_coder.other W13 (Or.inl (Nat.ne_of_lt lt_b10_b11))
        replace F10_value := F10_value.other W13 (Or.inl (Nat.ne_of_lt lt_b10_b11))
        replace G11 := G11.wr W13
        replace O := O.wr W13 g_b11
        replace hk := Nat.le_trans hk (Keep.of_wr W13).1
        replace KM := KM.wr W13 (Or.inr m_b11_11)
        replace K := K.wr W13 (Or.inr s_b11)
        replace N := Fr.snoc X13 N g_b11
        refine own_go (B := T13.setTop (mkF m 83 #[.val (.int p1), .val (.int p2), .val (.int c0), .val (.int c1), .val (.int c2)] [(.ref b11), (.ref b10), (.ref b10)])) st13 ?_
        have := bc0
        have := bc1
        have hws : ∀ d ∈ StrChars.Road.words, d.before a0 Z = true := fun d hd => hw d ((by decide +kernel : ∀ d ∈ StrChars.Road.words, d ∈ tables_1) d hd)
        -- pc 83: java/lang/String.<init>
        obtain ⟨_, _, ⟨T14, L14, k14, n14⟩, -, X14, ⟨Lc14, hQ14, l14, y14, z14⟩, st14⟩ := X13.specialBack hx (y := (⟨"java/lang/String", "<init>", "([C)V"⟩ : MethodName)) rfl hown (mvT hZ (hw _ (List.mem_of_getElem? (i := 8) rfl))) (mvT hZ (hw _ (List.mem_of_getElem? (i := 9) rfl))) (mvT hZ (hw _ (List.mem_of_getElem? (i := 10) rfl))) (by decide) (StrChars.Road.backV (W := 1) hZ hws (kI := 4) (hw _ (List.mem_of_getElem? (i := 5) rfl)) (cs := ([c0, c1] : List Int32)) (bs := ([c0, c1] : List Int32).map (fun c => c.toInt8.toInt32)) (n := 2) g_b10 (own_oldsz O) A10 F10_value F10_coder V13 (S_C.ext O.2) hcs rfl rfl (by decide) (by decide) (by intro c hc; simp only [List.mem_cons, List.not_mem_nil, or_false] at hc; rcases hc with rfl | rfl <;> assumption) rfl (by decide) (by decide)) (g := (mkF m 83 #[.val (.int p1), .val (.int p2), .val (.int c0), .val (.int c1), .val (.int c2)] [(.ref b11), (.ref b10), (.ref b10)])) rfl (by rw [hml]; rfl) (Steps.refl _) (a := b10) (argsL := [(.ref b11)]) (rest := [(.ref b10)]) (lenOf pd_4 rfl) rfl (by show 2 * 0 + _ ≤ _; exact Nat.le_of_eq rfl) (hb hby d_method_3_83) (fun _ hWm => ⟨rfl, e13, (by decide : 2 + 1 ≤ _), (by decide : 6 + 2 ≤ _)⟩)
        dsimp only [Pt.U, Pt.locs, Pt.cells, Pt.slots] at X14 l14 y14 z14 st14 hQ14
        subst l14 y14 z14
        obtain ⟨rfl, Nq14, Kq14, Gq14_0, Gq14_1, t14, kb14, u14, fq14, nq14, Gq14_2, Gq14_3⟩ := hQ14
        replace N := Fr.app N Nq14
        have lt_b10_t14 : b10 < t14 := Nat.lt_of_lt_of_le A10.lt fq14
        have lt_b11_t14 : b11 < t14 := Nat.lt_of_lt_of_le G11.lt fq14
        have g_t14 : n0 ≤ t14 := Nat.le_trans (own_oldsz O) fq14
        have m_t14_14 : h0.size ≤ t14 := Nat.le_trans KM.1 fq14
        have s_t14 : h0.size ≤ t14 := Nat.le_trans K.1 fq14
        replace A10 := A10.keep Kq14
        clear F10_coder
        clear F10_value
        replace G11 := G11.keep Kq14
        replace V13 := V13.keep Kq14 (ninS (Nat.ne_of_gt lt_b10_b11) nin0)
        replace O := O.keep Kq14 (allS g_b10 all0)
        replace hk := Nat.le_trans hk Kq14.1
        replace KM := KM.trans Kq14 (allS (Or.inr m_b10_10) all0)
        replace K := K.trans Kq14 (allS (Or.inr s_b10) all0)
        refine own_go (B := T14.setTop (mkF m 86 #[.val (.int p1), .val (.int p2), .val (.int c0), .val (.int c1), .val (.int c2)] [(.ref b10)])) (fun t k => st14.trans k) ?_
        obtain ⟨fs, hr, hrun, hended, hEnd⟩ := X14.leaveW hS hk (v := some (.ref b10)) (fun h => by rw [Bd.returns] at h; cases h)
        refine ⟨_, _, own_retA X14 hx rfl Bd.returns rfl (hb hby d_method_3_86) hr, hfin _ _ ⟨hrun, hended, _, _, rfl, ?_, ⟨hEnd.1, hEnd.2.1, hEnd.2.2.1, hEnd.2.2.2.mono (by decide) (by decide)⟩, own_emR rfl (Em.warm (M.keep KM) X14.warmed)⟩⟩
        show QMk Z p1 p2 zc h0 n0 _ T14.heap _
        exact ⟨b10, rfl, N, K, s_b10, Gq14_0⟩
      · refine own_go (B := s₁.setTop (mkF m 87 #[.val (.int p1), .val (.int p2), .val (.int c0), .val (.int c1), .val (.int c2)] [])) (fun t k => ?_) ?_
        · show Steps p.tables e below (s₁.setTop (mkF m 65 #[.val (.int p1), .val (.int p2), .val (.int c0), .val (.int c1), .val (.int c2)] [(.int (2 : Int32)), (.int p2)])) _
          refine XS.icmpYes X0.here hx rfl (pc0 := 65) (pc' := 87) rfl (hb hby d_method_3_65) rfl (feq l2).2 (by decide) (by decide) ?_
          show Steps p.tables e below (s₁.setTop (mkF m 87 #[.val (.int p1), .val (.int p2), .val (.int c0), .val (.int c1), .val (.int c2)] [])) _
          exact k
        obtain ⟨T16, h16, X16, e16, E16, A16, D16, -, st16⟩ := newO X0 hx hZ hown (hw _ (List.mem_of_getElem? (i := 4) rfl)) (hw _ (List.mem_of_getElem? (i := 5) rfl)) (hw _ (List.mem_of_getElem? (i := 6) rfl)) e0 (g := (mkF m 87 #[.val (.int p1), .val (.int p2), .val (.int c0), .val (.int c1), .val (.int c2)] [])) rfl (hb hby d_method_3_87) (by decide) (by decide)
        obtain ⟨b16, g16⟩ : ∃ z, z = h0.size := ⟨_, rfl⟩
        rw [← g16] at A16 D16 st16
        have g_b16 : n0 ≤ b16 := Nat.le_trans (own_oldsz O) (Nat.le_of_eq g16.symm)
        have m_b16_16 : h0.size ≤ b16 := Nat.le_trans KM.1 (Nat.le_of_eq g16.symm)
        have s_b16 : h0.size ≤ b16 := Nat.le_trans K.1 (Nat.le_of_eq g16.symm)
        replace O := O.ext E16
        replace hk := Nat.le_trans hk E16.1
        replace KM := KM.ext E16
        replace K := K.ext E16
        have F16_coder : Fld Z h16 b16 "java/lang/String" "coder" "B" (.int (0 : Int32)) := D16 (Or.inr (hw _ (List.mem_of_getElem? (i := 31) rfl))) (ty := .byte) (by decide)
        have F16_value : Fld Z h16 b16 "java/lang/String" "value" "[B" .null := D16 (Or.inr (hw _ (List.mem_of_getElem? (i := 33) rfl))) (ty := (.array .byte)) (by decide)
        refine own_go (B := T16.setTop (mkF m 90 #[.val (.int p1), .val (.int p2), .val (.int c0), .val (.int c1), .val (.int c2)] [(.ref b16)])) st16 ?_
        refine own_go (B := T16.setTop (mkF m 92 #[.val (.int p1), .val (.int p2), .val (.int c0), .val (.int c1), .val (.int c2)] [(.int (3 : Int32)), (.ref b16), (.ref b16)])) (fun t k => ?_) ?_
        · show Steps p.tables e below (T16.setTop (mkF m 90 #[.val (.int p1), .val (.int p2), .val (.int c0), .val (.int c1), .val (.int c2)] [(.ref b16)])) _
          refine XS.dup X16.here hx rfl (hb hby d_method_3_90) rfl rfl ?_
          show Steps p.tables e below (T16.setTop (mkF m 91 #[.val (.int p1), .val (.int p2), .val (.int c0), .val (.int c1), .val (.int c2)] [(.ref b16), (.ref b16)])) _
          refine XS.iconst X16.here hx rfl (hb hby d_method_3_91) ?_
          show Steps p.tables e below (T16.setTop (mkF m 92 #[.val (.int p1), .val (.int p2), .val (.int c0), .val (.int c1), .val (.int c2)] [(.int (3 : Int32)), (.ref b16), (.ref b16)])) _
          exact k
        obtain ⟨T17, h17, k17, X17, e17, E17, A17, G17, st17⟩ := newPE X16 hx hZ (hw _ (List.mem_of_getElem? (i := 7) rfl)) e16 (g := (mkF m 92 #[.val (.int p1), .val (.int p2), .val (.int c0), .val (.int c1), .val (.int c2)] [(.int (3 : Int32)), (.ref b16), (.ref b16)])) rfl (hb hby d_method_3_92) rfl (by decide) (cap := 3) (by decide) (by decide) (by decide) (by decide) (ad := "[C") (by decide)
        obtain ⟨b17, g17⟩ : ∃ z, z = h16.size := ⟨_, rfl⟩
        rw [← g17] at A17 G17 st17
        have lt_b16_b17 : b16 < b17 := Nat.lt_of_lt_of_le A16.lt (Nat.le_of_eq g17.symm)
        have g_b17 : n0 ≤ b17 := Nat.le_trans (own_oldsz O) (Nat.le_of_eq g17.symm)
        have m_b17_17 : h0.size ≤ b17 := Nat.le_trans KM.1 (Nat.le_of_eq g17.symm)
        have s_b17 : h0.size ≤ b17 := Nat.le_trans K.1 (Nat.le_of_eq g17.symm)
        replace A16 := A16.ext E17
        replace F16_coder := F16_coder.ext E17
        replace F16_value := F16_value.ext E17
        replace O := O.ext E17
        replace hk := Nat.le_trans hk E17.1
        replace KM := KM.ext E17
        replace K := K.ext E17
        have V17 : Arv Z h17 b17 k17 .char (3 : Int32) [(.int (0 : Int32)), (.int (0 : Int32)), (.int (0 : Int32))] (.int (0 : Int32)) := (Arv.new A17 (by decide)).pad (pad_rep [] (.int (0 : Int32)) 3)
        refine own_go (B := T17.setTop (mkF m 94 #[.val (.int p1), .val (.int p2), .val (.int c0), .val (.int c1), .val (.int c2)] [(.ref b17), (.ref b16), (.ref b16)])) st17 ?_
        refine own_go (B := T17.setTop (mkF m 97 #[.val (.int p1), .val (.int p2), .val (.int c0), .val (.int c1), .val (.int c2)] [(.int c0), (.int (0 : Int32)), (.ref b17), (.ref b17), (.ref b16), (.ref b16)])) (fun t k => ?_) ?_
        · show Steps p.tables e below (T17.setTop (mkF m 94 #[.val (.int p1), .val (.int p2), .val (.int c0), .val (.int c1), .val (.int c2)] [(.ref b17), (.ref b16), (.ref b16)])) _
          refine XS.dup X17.here hx rfl (hb hby d_method_3_94) rfl rfl ?_
          show Steps p.tables e below (T17.setTop (mkF m 95 #[.val (.int p1), .val (.int p2), .val (.int c0), .val (.int c1), .val (.int c2)] [(.ref b17), (.ref b17), (.ref b16), (.ref b16)])) _
          refine XS.iconst X17.here hx rfl (hb hby d_method_3_95) ?_
          show Steps p.tables e below (T17.setTop (mkF m 96 #[.val (.int p1), .val (.int p2), .val (.int c0), .val (.int c1), .val (.int c2)] [(.int (0 : Int32)), (.ref b17), (.ref b17), (.ref b16), (.ref b16)])) _
          refine XS.iloadN X17.here hx rfl (hb hby d_method_3_96) rfl ?_
          show Steps p.tables e below (T17.setTop (mkF m 97 #[.val (.int p1), .val (.int p2), .val (.int c0), .val (.int c1), .val (.int c2)] [(.int c0), (.int (0 : Int32)), (.ref b17), (.ref b17), (.ref b16), (.ref b16)])) _
          exact k
        obtain ⟨cl18, Ar18, q18, Sz18, Nn18, Hs18, Gt18⟩ := V17
        have hin18 : ¬ ((0 : Int32) < 0 ∨ cl18.slots.size ≤ ((0 : Int32)).toNatClampNeg) := inb_of Sz18 ⟨by decide, by decide⟩
        obtain ⟨T18, h18, X18, e18, W18, st18⟩ := stC X17 hx hZ e17 Ar18 (j := (0 : Int32)) hin18 (g := (mkF m 97 #[.val (.int p1), .val (.int p2), .val (.int c0), .val (.int c1), .val (.int c2)] [(.int c0), (.int (0 : Int32)), (.ref b17), (.ref b17), (.ref b16), (.ref b16)])) rfl rfl (hb hby d_method_3_97)
        have V18 := Arv.set Ar18 q18 Sz18 Nn18 Hs18 Gt18 (fits_nar_char _) W18 0 rfl (Nat.le_of_ble_eq_true rfl)
        rw [cc0] at V18
        have V18 : Arv Z h18 b17 k17 .char (3 : Int32) [(.int c0), (.int (0 : Int32)), (.int (0 : Int32))] (.int (0 : Int32)) := V18
        replace A16 := A16.wr W18
        replace F16_coder := F16_coder.other W18 (Or.inl (Nat.ne_of_lt lt_b16_b17))
        replace F16_value := F16_value.other W18 (Or.inl (Nat.ne_of_lt lt_b16_b17))
        replace G17 := G17.wr W18
        replace O := O.wr W18 g_b17
        replace hk := Nat.le_trans hk (Keep.of_wr W18).1
        replace KM := KM.wr W18 (Or.inr m_b17_17)
        replace K := K.wr W18 (Or.inr s_b17)
        replace N := Fr.snoc X18 N g_b17
        refine own_go (B := T18.setTop (mkF m 98 #[.val (.int p1), .val (.int p2), .val (.int c0), .val (.int c1), .val (.int c2)] [(.ref b17), (.ref b16), (.ref b16)])) st18 ?_
        refine own_go (B := T18.setTop (mkF m 101 #[.val (.int p1), .val (.int p2), .val (.int c0), .val (.int c1), .val (.int c2)] [(.int c1), (.int (1 : Int32)), (.ref b17), (.ref b17), (.ref b16), (.ref b16)])) (fun t k => ?_) ?_
        · show Steps p.tables e below (T18.setTop (mkF m 98 #[.val (.int p1), .val (.int p2), .val (.int c0), .val (.int c1), .val (.int c2)] [(.ref b17), (.ref b16), (.ref b16)])) _
          refine XS.dup X18.here hx rfl (hb hby d_method_3_98) rfl rfl ?_
          show Steps p.tables e below (T18.setTop (mkF m 99 #[.val (.int p1), .val (.int p2), .val (.int c0), .val (.int c1), .val (.int c2)] [(.ref b17), (.ref b17), (.ref b16), (.ref b16)])) _
          refine XS.iconst X18.here hx rfl (hb hby d_method_3_99) ?_
          show Steps p.tables e below (T18.setTop (mkF m 100 #[.val (.int p1), .val (.int p2), .val (.int c0), .val (.int c1), .val (.int c2)] [(.int (1 : Int32)), (.ref b17), (.ref b17), (.ref b16), (.ref b16)])) _
          refine XS.iloadN X18.here hx rfl (hb hby d_method_3_100) rfl ?_
          show Steps p.tables e below (T18.setTop (mkF m 101 #[.val (.int p1), .val (.int p2), .val (.int c0), .val (.int c1), .val (.int c2)] [(.int c1), (.int (1 : Int32)), (.ref b17), (.ref b17), (.ref b16), (.ref b16)])) _
          exact k
        obtain ⟨cl19, Ar19, q19, Sz19, Nn19, Hs19, Gt19⟩ := V18
        have hin19 : ¬ ((1 : Int32) < 0 ∨ cl19.slots.size ≤ ((1 : Int32)).toNatClampNeg) := inb_of Sz19 ⟨by decide, by decide⟩
        obtain ⟨T19, h19, X19, e19, W19, st19⟩ := stC X18 hx hZ e18 Ar19 (j := (1 : Int32)) hin19 (g := (mkF m 101 #[.val (.int p1), .val (.int p2), .val (.int c0), .val (.int c1), .val (.int c2)] [(.int c1), (.int (1 : Int32)), (.ref b17), (.ref b17), (.ref b16), (.ref b16)])) rfl rfl (hb hby d_method_3_101)
        have V19 := Arv.set Ar19 q19 Sz19 Nn19 Hs19 Gt19 (fits_nar_char _) W19 1 rfl (Nat.le_of_ble_eq_true rfl)
        rw [cc1] at V19
        have V19 : Arv Z h19 b17 k17 .char (3 : Int32) [(.int c0), (.int c1), (.int (0 : Int32))] (.int (0 : Int32)) := V19
        replace A16 := A16.wr W19
        replace F16_coder := F16_coder.other W19 (Or.inl (Nat.ne_of_lt lt_b16_b17))
        replace F16_value := F16_value.other W19 (Or.inl (Nat.ne_of_lt lt_b16_b17))
        replace G17 := G17.wr W19
        replace O := O.wr W19 g_b17
        replace hk := Nat.le_trans hk (Keep.of_wr W19).1
        replace KM := KM.wr W19 (Or.inr m_b17_17)
        replace K := K.wr W19 (Or.inr s_b17)
        replace N := Fr.snoc X19 N g_b17
        refine own_go (B := T19.setTop (mkF m 102 #[.val (.int p1), .val (.int p2), .val (.int c0), .val (.int c1), .val (.int c2)] [(.ref b17), (.ref b16), (.ref b16)])) st19 ?_
        refine own_go (B := T19.setTop (mkF m 106 #[.val (.int p1), .val (.int p2), .val (.int c0), .val (.int c1), .val (.int c2)] [(.int c2), (.int (2 : Int32)), (.ref b17), (.ref b17), (.ref b16), (.ref b16)])) (fun t k => ?_) ?_
        · show Steps p.tables e below (T19.setTop (mkF m 102 #[.val (.int p1), .val (.int p2), .val (.int c0), .val (.int c1), .val (.int c2)] [(.ref b17), (.ref b16), (.ref b16)])) _
          refine XS.dup X19.here hx rfl (hb hby d_method_3_102) rfl rfl ?_
          show Steps p.tables e below (T19.setTop (mkF m 103 #[.val (.int p1), .val (.int p2), .val (.int c0), .val (.int c1), .val (.int c2)] [(.ref b17), (.ref b17), (.ref b16), (.ref b16)])) _
          refine XS.iconst X19.here hx rfl (hb hby d_method_3_103) ?_
          show Steps p.tables e below (T19.setTop (mkF m 104 #[.val (.int p1), .val (.int p2), .val (.int c0), .val (.int c1), .val (.int c2)] [(.int (2 : Int32)), (.ref b17), (.ref b17), (.ref b16), (.ref b16)])) _
          refine XS.iload X19.here hx rfl (hb hby d_method_3_104) rfl ?_
          show Steps p.tables e below (T19.setTop (mkF m 106 #[.val (.int p1), .val (.int p2), .val (.int c0), .val (.int c1), .val (.int c2)] [(.int c2), (.int (2 : Int32)), (.ref b17), (.ref b17), (.ref b16), (.ref b16)])) _
          exact k
        obtain ⟨cl20, Ar20, q20, Sz20, Nn20, Hs20, Gt20⟩ := V19
        have hin20 : ¬ ((2 : Int32) < 0 ∨ cl20.slots.size ≤ ((2 : Int32)).toNatClampNeg) := inb_of Sz20 ⟨by decide, by decide⟩
        obtain ⟨T20, h20, X20, e20, W20, st20⟩ := stC X19 hx hZ e19 Ar20 (j := (2 : Int32)) hin20 (g := (mkF m 106 #[.val (.int p1), .val (.int p2), .val (.int c0), .val (.int c1), .val (.int c2)] [(.int c2), (.int (2 : Int32)), (.ref b17), (.ref b17), (.ref b16), (.ref b16)])) rfl rfl (hb hby d_method_3_106)
        have V20 := Arv.set Ar20 q20 Sz20 Nn20 Hs20 Gt20 (fits_nar_char _) W20 2 rfl (Nat.le_of_ble_eq_true rfl)
        rw [cc2] at V20
        have V20 : Arv Z h20 b17 k17 .char (3 : Int32) [(.int c0), (.int c1), (.int c2)] (.int (0 : Int32)) := V20
        replace A16 := A16.wr W20
        replace F16_coder := F16_coder.other W20 (Or.inl (Nat.ne_of_lt lt_b16_b17))
        replace F16_value := F16_value.other W20 (Or.inl (Nat.ne_of_lt lt_b16_b17))
        replace G17 := G17.wr W20
        replace O := O.wr W20 g_b17
        replace hk := Nat.le_trans hk (Keep.of_wr W20).1
        replace KM := KM.wr W20 (Or.inr m_b17_17)
        replace K := K.wr W20 (Or.inr s_b17)
        replace N := Fr.snoc X20 N g_b17
        refine own_go (B := T20.setTop (mkF m 107 #[.val (.int p1), .val (.int p2), .val (.int c0), .val (.int c1), .val (.int c2)] [(.ref b17), (.ref b16), (.ref b16)])) st20 ?_
        have := bc0
        have := bc1
        have := bc2
        have hws : ∀ d ∈ StrChars.Road.words, d.before a0 Z = true := fun d hd => hw d ((by decide +kernel : ∀ d ∈ StrChars.Road.words, d ∈ tables_1) d hd)
        -- pc 107: java/lang/String.<init>
        obtain ⟨_, _, ⟨T21, L21, k21, n21⟩, -, X21, ⟨Lc21, hQ21, l21, y21, z21⟩, st21⟩ := X20.specialBack hx (y := (⟨"java/lang/String", "<init>", "([C)V"⟩ : MethodName)) rfl hown (mvT hZ (hw _ (List.mem_of_getElem? (i := 8) rfl))) (mvT hZ (hw _ (List.mem_of_getElem? (i := 9) rfl))) (mvT hZ (hw _ (List.mem_of_getElem? (i := 10) rfl))) (by decide) (StrChars.Road.backV (W := 1) hZ hws (kI := 4) (hw _ (List.mem_of_getElem? (i := 5) rfl)) (cs := ([c0, c1, c2] : List Int32)) (bs := ([c0, c1, c2] : List Int32).map (fun c => c.toInt8.toInt32)) (n := 3) g_b16 (own_oldsz O) A16 F16_value F16_coder V20 (S_C.ext O.2) hcs rfl rfl (by decide) (by decide) (by intro c hc; simp only [List.mem_cons, List.not_mem_nil, or_false] at hc; rcases hc with rfl | rfl | rfl <;> assumption) rfl (by decide) (by decide)) (g := (mkF m 107 #[.val (.int p1), .val (.int p2), .val (.int c0), .val (.int c1), .val (.int c2)] [(.ref b17), (.ref b16), (.ref b16)])) rfl (by rw [hml]; rfl) (Steps.refl _) (a := b16) (argsL := [(.ref b17)]) (rest := [(.ref b16)]) (lenOf pd_4 rfl) rfl (by show 2 * 0 + _ ≤ _; exact Nat.le_of_eq rfl) (hb hby d_method_3_107) (fun _ hWm => ⟨rfl, e20, (by decide : 2 + 1 ≤ _), (by decide : 7 + 3 ≤ _)⟩)
        dsimp only [Pt.U, Pt.locs, Pt.cells, Pt.slots] at X21 l21 y21 z21 st21 hQ21
        subst l21 y21 z21
        obtain ⟨rfl, Nq21, Kq21, Gq21_0, Gq21_1, t21, kb21, u21, fq21, nq21, Gq21_2, Gq21_3⟩ := hQ21
        replace N := Fr.app N Nq21
        have lt_b16_t21 : b16 < t21 := Nat.lt_of_lt_of_le A16.lt fq21
        have lt_b17_t21 : b17 < t21 := Nat.lt_of_lt_of_le G17.lt fq21
        have g_t21 : n0 ≤ t21 := Nat.le_trans (own_oldsz O) fq21
        have m_t21_21 : h0.size ≤ t21 := Nat.le_trans KM.1 fq21
        have s_t21 : h0.size ≤ t21 := Nat.le_trans K.1 fq21
        replace A16 := A16.keep Kq21
        clear F16_coder
        clear F16_value
        replace G17 := G17.keep Kq21
        replace V20 := V20.keep Kq21 (ninS (Nat.ne_of_gt lt_b16_b17) nin0)
        replace O := O.keep Kq21 (allS g_b16 all0)
        replace hk := Nat.le_trans hk Kq21.1
        replace KM := KM.trans Kq21 (allS (Or.inr m_b16_16) all0)
        replace K := K.trans Kq21 (allS (Or.inr s_b16) all0)
        refine own_go (B := T21.setTop (mkF m 110 #[.val (.int p1), .val (.int p2), .val (.int c0), .val (.int c1), .val (.int c2)] [(.ref b16)])) (fun t k => st21.trans k) ?_
        obtain ⟨fs, hr, hrun, hended, hEnd⟩ := X21.leaveW hS hk (v := some (.ref b16)) (fun h => by rw [Bd.returns] at h; cases h)
        refine ⟨_, _, own_retA X21 hx rfl Bd.returns rfl (hb hby d_method_3_110) hr, hfin _ _ ⟨hrun, hended, _, _, rfl, ?_, ⟨hEnd.1, hEnd.2.1, hEnd.2.2.1, hEnd.2.2.2.mono (by decide) (by decide)⟩, own_emR rfl (Em.warm (M.keep KM) X21.warmed)⟩⟩
        show QMk Z p1 p2 zc h0 n0 _ T21.heap _
        exact ⟨b16, rfl, N, K, s_b16, Gq21_0⟩
def Q0 (Z : State) (p1 : Int32) (p2 : Int32) (p3 : Int32) (wE : Addr) (zc : Int32) (h0 : Heap) (n0 : Nat) (v : Option Value) (h : Heap) (L : List Loc) : Prop := v = some (.int 1) ∧ Fr n0 L
theorem ef_0 (m : MethodId) (p1 : Int32) (p2 : Int32) (p3 : Int32) : entryFrame m #[(.int p1), (.int p2), (.int p3)] maxLocals = mkF m 0 #[.val (.int p1), .val (.int p2), .val (.int p3), .unset, .unset, .unset, .unset, .unset, .unset, .unset, .unset, .unset, .unset, .unset] [] := by first | (simp [entryFrame, mkF, argsToLocals, Value.category, maxLocals]; done) | rfl | (rfl)
set_option maxRecDepth 65536 in
set_option maxHeartbeats 40000000 in
theorem rm0 (l : Launch) (Z : State) (a0 : Array Value) (hw : ∀ d ∈ tables_1, d.before a0 Z = true) (ws : List Jvm.Cond) (p1 : Int32) (p2 : Int32) (p3 : Int32) (wE : Addr) (zc : Int32) (h0 : Heap) (n0 : Nat) (O : Old Z n0 h0) (S_E : Sta Z Z.heap "java/util/Optional" "EMPTY" "Ljava/util/Optional;" (.ref wE)) (E_E : Exa Z Z.heap wE "java/util/Optional") (F_E : Fld Z Z.heap wE "java/util/Optional" "value" "Ljava/lang/Object;" .null) (S_C : Sta Z Z.heap "java/lang/String" "COMPACT_STRINGS" "Z" (.int zc)) (hcs : ¬ zc = (0 : Int32)) (hcH : Jvm.Lit.constHeld Z "java/lang/String" 7) (hcw : Jvm.Lit.compactW.before a0 Z = true) :
    MetFree l x (head1 (Jvm.Cond.code x code maxLocals ret :: ws) room_1) (fun as_ U => as_ = #[(.int p1), (.int p2), (.int p3)] ∧ Z.Warmed39 U.vm ∧ U.heap = h0 ∧ Em Z U.vm h0) (fun _ _ _ _ _ => True) (fun _ U oo_ U' => ∃ vv_ LL_, oo_ = .returned vv_ ∧ Q0 Z p1 p2 p3 wE zc h0 n0 vv_ U'.heap LL_ ∧ ReturnedEndW U oo_ U' LL_ room_1.cells room_1.slots) := by
  refine MetFree.of_bodySF (plainFor_of_name pn_4) hisR ?_
  intro p e s m args below meth c s₁ Bd hml0 hP hK
  obtain ⟨rfl, hZ, hh, M⟩ := hP
  have hx := Bd.exec
  have hby := Bd.bytes
  have hml : c.maxLocals = 14 := hml0
  have hown : s.vm.findClass "com/example/fixity/fixity/engine/AccountRequestRolePinLaw" = some m.cls := findClass_of_methodNamed Bd.named
  have hnm := (name_of_methodNamed Bd.named Bd.method).1
  have X0 : Stand p l e room_1 (s.setVm s.vm) m #[(.int p1), (.int p2), (.int p3)] below meth c s₁ [] 0 0 := Stand.of_body Bd
  have e0 : s₁.heap = h0 := by rw [← hh, Bd.state]; rfl
  have N := Fr.nil n0
  have hown : (s.setVm s.vm).vm.findClass "com/example/fixity/fixity/engine/AccountRequestRolePinLaw" = some m.cls := hown
  have hZ : Z.Warmed39 (s.setVm s.vm).vm := hZ
  have hS : s.Since s.vm h0.size := (State.WarmedH.refl s).since _
  have hk : h0.size ≤ h0.size := Nat.le_refl _
  refine own_go (B := s₁.setTop (mkF m 0 #[.val (.int p1), .val (.int p2), .val (.int p3), .unset, .unset, .unset, .unset, .unset, .unset, .unset, .unset, .unset, .unset, .unset] [])) (fun t k => castTop (ef_0 m p1 p2 p3) k) ?_
  have KM : Keep h0 h0 [] := Keep.refl h0 _
  refine own_abs (fun P hfin => ?_)
  refine own_go (B := s₁.setTop (mkF m 4 #[.val (.int p1), .val (.int p2), .val (.int p3), .unset, .unset, .unset, .unset, .unset, .unset, .unset, .unset, .unset, .unset, .unset] [(.int (p3 &&& (3 : Int32))), (.int p1)])) (fun t k => ?_) ?_
  · show Steps p.tables e below (s₁.setTop (mkF m 0 #[.val (.int p1), .val (.int p2), .val (.int p3), .unset, .unset, .unset, .unset, .unset, .unset, .unset, .unset, .unset, .unset, .unset] [])) _
    refine XS.iloadN X0.here hx rfl (hb hby at_0) rfl ?_
    show Steps p.tables e below (s₁.setTop (mkF m 1 #[.val (.int p1), .val (.int p2), .val (.int p3), .unset, .unset, .unset, .unset, .unset, .unset, .unset, .unset, .unset, .unset, .unset] [(.int p1)])) _
    refine XS.iloadN X0.here hx rfl (hb hby at_1) rfl ?_
    show Steps p.tables e below (s₁.setTop (mkF m 2 #[.val (.int p1), .val (.int p2), .val (.int p3), .unset, .unset, .unset, .unset, .unset, .unset, .unset, .unset, .unset, .unset, .unset] [(.int p3), (.int p1)])) _
    refine XS.iconst X0.here hx rfl (hb hby at_2) ?_
    show Steps p.tables e below (s₁.setTop (mkF m 3 #[.val (.int p1), .val (.int p2), .val (.int p3), .unset, .unset, .unset, .unset, .unset, .unset, .unset, .unset, .unset, .unset, .unset] [(.int (3 : Int32)), (.int p3), (.int p1)])) _
    refine XS.iand X0.here hx rfl (hb hby at_3) rfl ?_
    show Steps p.tables e below (s₁.setTop (mkF m 4 #[.val (.int p1), .val (.int p2), .val (.int p3), .unset, .unset, .unset, .unset, .unset, .unset, .unset, .unset, .unset, .unset, .unset] [(.int (p3 &&& (3 : Int32))), (.int p1)])) _
    exact k
  -- pc 4: com/example/fixity/fixity/engine/AccountRequestRolePinLaw.mk
  obtain ⟨_, _, ⟨T1, L1, k1, n1⟩, -, X1, hSq1, hgq1, ⟨Lc1, hQ1, l1, y1, z1⟩, st1⟩ := callSS X0 hx (y := (⟨"com/example/fixity/fixity/engine/AccountRequestRolePinLaw", "mk", "(II)Ljava/lang/String;"⟩ : MethodName)) hown (mvT hZ (hw _ (List.mem_of_getElem? (i := 0) rfl))) (mvT hZ (hw _ (List.mem_of_getElem? (i := 1) rfl))) (mvT hZ (hw _ (List.mem_of_getElem? (i := 2) rfl))) (mvT hZ (hw _ (List.mem_of_getElem? (i := 3) rfl))) (by decide) (own_backOfE (W := 0) (rmMk l Z a0 hw [] p1 (p3 &&& (3 : Int32)) zc h0 n0 O S_C hcs hcH hcw) hZ (hw _ (List.mem_of_getElem? (i := 3) rfl)) (hw _ (List.mem_of_getElem? (i := 2) rfl)) (by decide) (by decide)) (g := (mkF m 4 #[.val (.int p1), .val (.int p2), .val (.int p3), .unset, .unset, .unset, .unset, .unset, .unset, .unset, .unset, .unset, .unset, .unset] [(.int (p3 &&& (3 : Int32))), (.int p1)])) rfl (by rw [hml]; rfl) (argsL := [(.int p1), (.int (p3 &&& (3 : Int32)))]) (rest := []) (lenOf pd_5 rfl) rfl (by show 2 * 0 + _ ≤ _; exact Nat.le_of_eq rfl) (hb hby at_4) (fun _ hWm => ⟨rfl, e0, (by decide : 0 + 4 ≤ _), (by decide : 0 + 10 ≤ _), Em.warm M hWm⟩)
  dsimp only [Pt.U, Pt.locs, Pt.cells, Pt.slots] at X1 l1 y1 z1 st1 hQ1 hSq1 hgq1
  subst l1 y1 z1
  obtain ⟨X1, hS, hZ, hown⟩ := rebS hS (by rw [e0]; exact hk) X1 hSq1 hgq1 hZ hown
  obtain ⟨⟨r1, rfl, Nq1, Kq1, fq1_r, Gq1_0⟩, M⟩ := hQ1
  replace N := Fr.app N Nq1
  have g_r1 : n0 ≤ r1 := Nat.le_trans (own_oldsz O) fq1_r
  have m_r1_1 : h0.size ≤ r1 := Nat.le_trans KM.1 fq1_r
  replace O := O.keep Kq1 all0
  have hk : T1.heap.size ≤ T1.heap.size := Nat.le_refl _
  have KM : Keep T1.heap T1.heap [] := Keep.refl _ _
  refine own_go (B := T1.setTop (mkF m 7 #[.val (.int p1), .val (.int p2), .val (.int p3), .unset, .unset, .unset, .unset, .unset, .unset, .unset, .unset, .unset, .unset, .unset] [(.ref r1)])) (fun t k => st1.trans k) ?_
  refine own_go (B := T1.setTop (mkF m 14 #[.val (.int p1), .val (.int p2), .val (.int p3), .val (.ref r1), .unset, .unset, .unset, .unset, .unset, .unset, .unset, .unset, .unset, .unset] [(.int (((p3.toUInt32 >>> ((2 : Int32) &&& 31).toUInt32).toInt32) &&& (3 : Int32))), (.int p2)])) (fun t k => ?_) ?_
  · show Steps p.tables e below (T1.setTop (mkF m 7 #[.val (.int p1), .val (.int p2), .val (.int p3), .unset, .unset, .unset, .unset, .unset, .unset, .unset, .unset, .unset, .unset, .unset] [(.ref r1)])) _
    refine XS.astoreN X1.here hx rfl (hb hby at_7) rfl rfl (l' := #[.val (.int p1), .val (.int p2), .val (.int p3), .val (.ref r1), .unset, .unset, .unset, .unset, .unset, .unset, .unset, .unset, .unset, .unset]) rfl ?_
    show Steps p.tables e below (T1.setTop (mkF m 8 #[.val (.int p1), .val (.int p2), .val (.int p3), .val (.ref r1), .unset, .unset, .unset, .unset, .unset, .unset, .unset, .unset, .unset, .unset] [])) _
    refine XS.iloadN X1.here hx rfl (hb hby at_8) rfl ?_
    show Steps p.tables e below (T1.setTop (mkF m 9 #[.val (.int p1), .val (.int p2), .val (.int p3), .val (.ref r1), .unset, .unset, .unset, .unset, .unset, .unset, .unset, .unset, .unset, .unset] [(.int p2)])) _
    refine XS.iloadN X1.here hx rfl (hb hby at_9) rfl ?_
    show Steps p.tables e below (T1.setTop (mkF m 10 #[.val (.int p1), .val (.int p2), .val (.int p3), .val (.ref r1), .unset, .unset, .unset, .unset, .unset, .unset, .unset, .unset, .unset, .unset] [(.int p3), (.int p2)])) _
    refine XS.iconst X1.here hx rfl (hb hby at_10) ?_
    show Steps p.tables e below (T1.setTop (mkF m 11 #[.val (.int p1), .val (.int p2), .val (.int p3), .val (.ref r1), .unset, .unset, .unset, .unset, .unset, .unset, .unset, .unset, .unset, .unset] [(.int (2 : Int32)), (.int p3), (.int p2)])) _
    refine XS.iushr X1.here hx rfl (hb hby at_11) rfl ?_
    show Steps p.tables e below (T1.setTop (mkF m 12 #[.val (.int p1), .val (.int p2), .val (.int p3), .val (.ref r1), .unset, .unset, .unset, .unset, .unset, .unset, .unset, .unset, .unset, .unset] [(.int ((p3.toUInt32 >>> ((2 : Int32) &&& 31).toUInt32).toInt32)), (.int p2)])) _
    refine XS.iconst X1.here hx rfl (hb hby at_12) ?_
    show Steps p.tables e below (T1.setTop (mkF m 13 #[.val (.int p1), .val (.int p2), .val (.int p3), .val (.ref r1), .unset, .unset, .unset, .unset, .unset, .unset, .unset, .unset, .unset, .unset] [(.int (3 : Int32)), (.int ((p3.toUInt32 >>> ((2 : Int32) &&& 31).toUInt32).toInt32)), (.int p2)])) _
    refine XS.iand X1.here hx rfl (hb hby at_13) rfl ?_
    show Steps p.tables e below (T1.setTop (mkF m 14 #[.val (.int p1), .val (.int p2), .val (.int p3), .val (.ref r1), .unset, .unset, .unset, .unset, .unset, .unset, .unset, .unset, .unset, .unset] [(.int (((p3.toUInt32 >>> ((2 : Int32) &&& 31).toUInt32).toInt32) &&& (3 : Int32))), (.int p2)])) _
    exact k
  -- pc 14: com/example/fixity/fixity/engine/AccountRequestRolePinLaw.mk
  obtain ⟨_, _, ⟨T2, L2, k2, n2⟩, -, X2, hSq2, hgq2, ⟨Lc2, hQ2, l2, y2, z2⟩, st2⟩ := callSS X1 hx (y := (⟨"com/example/fixity/fixity/engine/AccountRequestRolePinLaw", "mk", "(II)Ljava/lang/String;"⟩ : MethodName)) hown (mvT hZ (hw _ (List.mem_of_getElem? (i := 0) rfl))) (mvT hZ (hw _ (List.mem_of_getElem? (i := 1) rfl))) (mvT hZ (hw _ (List.mem_of_getElem? (i := 2) rfl))) (mvT hZ (hw _ (List.mem_of_getElem? (i := 3) rfl))) (by decide) (own_backOfE (W := 0) (rmMk l Z a0 hw [] p2 (((p3.toUInt32 >>> ((2 : Int32) &&& 31).toUInt32).toInt32) &&& (3 : Int32)) zc T1.heap n0 O S_C hcs hcH hcw) hZ (hw _ (List.mem_of_getElem? (i := 3) rfl)) (hw _ (List.mem_of_getElem? (i := 2) rfl)) (by decide) (by decide)) (g := (mkF m 14 #[.val (.int p1), .val (.int p2), .val (.int p3), .val (.ref r1), .unset, .unset, .unset, .unset, .unset, .unset, .unset, .unset, .unset, .unset] [(.int (((p3.toUInt32 >>> ((2 : Int32) &&& 31).toUInt32).toInt32) &&& (3 : Int32))), (.int p2)])) rfl (by rw [hml]; rfl) (argsL := [(.int p2), (.int (((p3.toUInt32 >>> ((2 : Int32) &&& 31).toUInt32).toInt32) &&& (3 : Int32)))]) (rest := []) (lenOf pd_5 rfl) rfl (by show 2 * 0 + _ ≤ _; exact Nat.le_of_eq rfl) (hb hby at_14) (fun _ hWm => ⟨rfl, rfl, (by decide : 4 + 4 ≤ _), (by decide : 10 + 10 ≤ _), Em.warm M hWm⟩)
  dsimp only [Pt.U, Pt.locs, Pt.cells, Pt.slots] at X2 l2 y2 z2 st2 hQ2 hSq2 hgq2
  subst l2 y2 z2
  obtain ⟨X2, hS, hZ, hown⟩ := rebS hS hk X2 hSq2 hgq2 hZ hown
  obtain ⟨⟨r2, rfl, Nq2, Kq2, fq2_r, Gq2_0⟩, M⟩ := hQ2
  replace N := Fr.app N Nq2
  have lt_r1_r2 : r1 < r2 := Nat.lt_of_lt_of_le Gq1_0.lt fq2_r
  have g_r2 : n0 ≤ r2 := Nat.le_trans (own_oldsz O) fq2_r
  have m_r2_2 : T1.heap.size ≤ r2 := Nat.le_trans KM.1 fq2_r
  replace Gq1_0 := Gq1_0.keep Kq2
  replace O := O.keep Kq2 all0
  have hk : T2.heap.size ≤ T2.heap.size := Nat.le_refl _
  have KM : Keep T2.heap T2.heap [] := Keep.refl _ _
  refine own_go (B := T2.setTop (mkF m 17 #[.val (.int p1), .val (.int p2), .val (.int p3), .val (.ref r1), .unset, .unset, .unset, .unset, .unset, .unset, .unset, .unset, .unset, .unset] [(.ref r2)])) (fun t k => st2.trans k) ?_
  refine own_go (B := T2.setTop (mkF m 19 #[.val (.int p1), .val (.int p2), .val (.int p3), .val (.ref r1), .val (.ref r2), .unset, .unset, .unset, .unset, .unset, .unset, .unset, .unset, .unset] [])) (fun t k => ?_) ?_
  · show Steps p.tables e below (T2.setTop (mkF m 17 #[.val (.int p1), .val (.int p2), .val (.int p3), .val (.ref r1), .unset, .unset, .unset, .unset, .unset, .unset, .unset, .unset, .unset, .unset] [(.ref r2)])) _
    refine XS.astore X2.here hx rfl (hb hby at_17) rfl rfl (l' := #[.val (.int p1), .val (.int p2), .val (.int p3), .val (.ref r1), .val (.ref r2), .unset, .unset, .unset, .unset, .unset, .unset, .unset, .unset, .unset]) rfl ?_
    show Steps p.tables e below (T2.setTop (mkF m 19 #[.val (.int p1), .val (.int p2), .val (.int p3), .val (.ref r1), .val (.ref r2), .unset, .unset, .unset, .unset, .unset, .unset, .unset, .unset, .unset] [])) _
    exact k
  by_cases kt : (p3 &&& (16 : Int32)) = (0 : Int32)
  · refine own_go (B := T2.setTop (mkF m 33 #[.val (.int p1), .val (.int p2), .val (.int p3), .val (.ref r1), .val (.ref r2), .val (.int (0 : Int32)), .unset, .unset, .unset, .unset, .unset, .unset, .unset, .unset] [])) (fun t k => ?_) ?_
    · show Steps p.tables e below (T2.setTop (mkF m 19 #[.val (.int p1), .val (.int p2), .val (.int p3), .val (.ref r1), .val (.ref r2), .unset, .unset, .unset, .unset, .unset, .unset, .unset, .unset, .unset] [])) _
      refine XS.iloadN X2.here hx rfl (hb hby at_19) rfl ?_
      show Steps p.tables e below (T2.setTop (mkF m 20 #[.val (.int p1), .val (.int p2), .val (.int p3), .val (.ref r1), .val (.ref r2), .unset, .unset, .unset, .unset, .unset, .unset, .unset, .unset, .unset] [(.int p3)])) _
      refine XS.bipush X2.here hx rfl (hb hby at_20) ?_
      show Steps p.tables e below (T2.setTop (mkF m 22 #[.val (.int p1), .val (.int p2), .val (.int p3), .val (.ref r1), .val (.ref r2), .unset, .unset, .unset, .unset, .unset, .unset, .unset, .unset, .unset] [(.int (16 : Int32)), (.int p3)])) _
      refine XS.iand X2.here hx rfl (hb hby at_22) rfl ?_
      show Steps p.tables e below (T2.setTop (mkF m 23 #[.val (.int p1), .val (.int p2), .val (.int p3), .val (.ref r1), .val (.ref r2), .unset, .unset, .unset, .unset, .unset, .unset, .unset, .unset, .unset] [(.int (p3 &&& (16 : Int32)))])) _
      refine XS.ifYes X2.here hx rfl (pc0 := 23) (pc' := 30) rfl (hb hby at_23) rfl ((if0 _ _).trans (teq kt).1) (by decide) (by decide) ?_
      show Steps p.tables e below (T2.setTop (mkF m 30 #[.val (.int p1), .val (.int p2), .val (.int p3), .val (.ref r1), .val (.ref r2), .unset, .unset, .unset, .unset, .unset, .unset, .unset, .unset, .unset] [])) _
      refine XS.iconst X2.here hx rfl (hb hby at_30) ?_
      show Steps p.tables e below (T2.setTop (mkF m 31 #[.val (.int p1), .val (.int p2), .val (.int p3), .val (.ref r1), .val (.ref r2), .unset, .unset, .unset, .unset, .unset, .unset, .unset, .unset, .unset] [(.int (0 : Int32))])) _
      refine XS.istore X2.here hx rfl (hb hby at_31) rfl (l' := #[.val (.int p1), .val (.int p2), .val (.int p3), .val (.ref r1), .val (.ref r2), .val (.int (0 : Int32)), .unset, .unset, .unset, .unset, .unset, .unset, .unset, .unset]) rfl ?_
      show Steps p.tables e below (T2.setTop (mkF m 33 #[.val (.int p1), .val (.int p2), .val (.int p3), .val (.ref r1), .val (.ref r2), .val (.int (0 : Int32)), .unset, .unset, .unset, .unset, .unset, .unset, .unset, .unset] [])) _
      exact k
    obtain ⟨T3, h3, X3, e3, E3, A3, D3, -, st3⟩ := newO X2 hx hZ hown (hw _ (List.mem_of_getElem? (i := 37) rfl)) (hw _ (List.mem_of_getElem? (i := 38) rfl)) (hw _ (List.mem_of_getElem? (i := 39) rfl)) rfl (g := (mkF m 33 #[.val (.int p1), .val (.int p2), .val (.int p3), .val (.ref r1), .val (.ref r2), .val (.int (0 : Int32)), .unset, .unset, .unset, .unset, .unset, .unset, .unset, .unset] [])) rfl (hb hby at_33) (by decide) (by decide)
    obtain ⟨b3, g3⟩ : ∃ z, z = T2.heap.size := ⟨_, rfl⟩
    rw [← g3] at A3 D3 st3
    have lt_r1_b3 : r1 < b3 := Nat.lt_of_lt_of_le Gq1_0.lt (Nat.le_of_eq g3.symm)
    have lt_r2_b3 : r2 < b3 := Nat.lt_of_lt_of_le Gq2_0.lt (Nat.le_of_eq g3.symm)
    have g_b3 : n0 ≤ b3 := Nat.le_trans (own_oldsz O) (Nat.le_of_eq g3.symm)
    have m_b3_3 : T2.heap.size ≤ b3 := Nat.le_trans KM.1 (Nat.le_of_eq g3.symm)
    replace Gq1_0 := Gq1_0.ext E3
    replace Gq2_0 := Gq2_0.ext E3
    replace O := O.ext E3
    replace hk := Nat.le_trans hk E3.1
    replace KM := KM.ext E3
    have F3_unreadable : Fld Z h3 b3 "com/example/fixity/fixity/engine/AccountRequest" "unreadable" "Ljava/lang/String;" .null := D3 (Or.inr (hw _ (List.mem_of_getElem? (i := 45) rfl))) (ty := (.object "java/lang/String")) (by decide)
    have F3_role : Fld Z h3 b3 "com/example/fixity/fixity/engine/AccountRequest" "role" "Ljava/lang/String;" .null := D3 (Or.inl (hw _ (List.mem_of_getElem? (i := 52) rfl))) (ty := (.object "java/lang/String")) (by decide)
    have F3_disabled : Fld Z h3 b3 "com/example/fixity/fixity/engine/AccountRequest" "disabled" "Ljava/lang/Boolean;" .null := D3 (Or.inl (hw _ (List.mem_of_getElem? (i := 104) rfl))) (ty := (.object "java/lang/Boolean")) (by decide)
    have F3_workflowRoles : Fld Z h3 b3 "com/example/fixity/fixity/engine/AccountRequest" "workflowRoles" "Ljava/util/List;" .null := D3 (Or.inl (hw _ (List.mem_of_getElem? (i := 111) rfl))) (ty := (.object "java/util/List")) (by decide)
    refine own_go (B := T3.setTop (mkF m 36 #[.val (.int p1), .val (.int p2), .val (.int p3), .val (.ref r1), .val (.ref r2), .val (.int (0 : Int32)), .unset, .unset, .unset, .unset, .unset, .unset, .unset, .unset] [(.ref b3)])) st3 ?_
    refine own_go (B := T3.setTop (mkF m 37 #[.val (.int p1), .val (.int p2), .val (.int p3), .val (.ref r1), .val (.ref r2), .val (.int (0 : Int32)), .unset, .unset, .unset, .unset, .unset, .unset, .unset, .unset] [(.ref b3), (.ref b3)])) (fun t k => ?_) ?_
    · show Steps p.tables e below (T3.setTop (mkF m 36 #[.val (.int p1), .val (.int p2), .val (.int p3), .val (.ref r1), .val (.ref r2), .val (.int (0 : Int32)), .unset, .unset, .unset, .unset, .unset, .unset, .unset, .unset] [(.ref b3)])) _
      refine XS.dup X3.here hx rfl (hb hby at_36) rfl rfl ?_
      show Steps p.tables e below (T3.setTop (mkF m 37 #[.val (.int p1), .val (.int p2), .val (.int p3), .val (.ref r1), .val (.ref r2), .val (.int (0 : Int32)), .unset, .unset, .unset, .unset, .unset, .unset, .unset, .unset] [(.ref b3), (.ref b3)])) _
      exact k
    -- pc 37: com/example/fixity/fixity/engine/AccountRequest.<init>
    obtain ⟨_, _, ⟨T4, L4, k4, n4⟩, -, X4, ⟨Lc4, hQ4, l4, y4, z4⟩, st4⟩ := X3.specialBack hx (y := (⟨"com/example/fixity/fixity/engine/AccountRequest", "<init>", "()V"⟩ : MethodName)) rfl hown (mvT hZ (hw _ (List.mem_of_getElem? (i := 40) rfl))) (mvT hZ (hw _ (List.mem_of_getElem? (i := 41) rfl))) (mvT hZ (hw _ (List.mem_of_getElem? (i := 42) rfl))) (by decide) (backOf (W := 1) (rmInit l Z a0 hw [] b3 h3 n0 O A3 F3_unreadable F3_role F3_disabled F3_workflowRoles g_b3) hZ (hw _ (List.mem_of_getElem? (i := 42) rfl)) (hw _ (List.mem_of_getElem? (i := 39) rfl)) (by decide) (by decide)) (g := (mkF m 37 #[.val (.int p1), .val (.int p2), .val (.int p3), .val (.ref r1), .val (.ref r2), .val (.int (0 : Int32)), .unset, .unset, .unset, .unset, .unset, .unset, .unset, .unset] [(.ref b3), (.ref b3)])) rfl (by rw [hml]; rfl) (Steps.refl _) (a := b3) (argsL := []) (rest := [(.ref b3)]) (lenOf pd_6 rfl) rfl (by show 2 * 0 + _ ≤ _; exact Nat.le_of_eq rfl) (hb hby at_37) (fun _ hWm => ⟨rfl, e3, (by decide : 9 + 0 ≤ _), (by decide : 27 + 0 ≤ _)⟩)
    dsimp only [Pt.U, Pt.locs, Pt.cells, Pt.slots] at X4 l4 y4 z4 st4 hQ4
    subst l4 y4 z4
    obtain ⟨rfl, Nq4, Kq4, Gq4_0, Gq4_1, Gq4_2, Gq4_3⟩ := hQ4
    replace N := Fr.app N Nq4
    replace Gq1_0 := Gq1_0.keep Kq4
    replace Gq2_0 := Gq2_0.keep Kq4
    replace A3 := A3.keep Kq4
    clear F3_unreadable
    clear F3_role
    clear F3_disabled
    clear F3_workflowRoles
    replace O := O.keep Kq4 (allS g_b3 all0)
    replace hk := Nat.le_trans hk Kq4.1
    replace KM := KM.trans Kq4 (allS (Or.inr m_b3_3) all0)
    refine own_go (B := T4.setTop (mkF m 40 #[.val (.int p1), .val (.int p2), .val (.int p3), .val (.ref r1), .val (.ref r2), .val (.int (0 : Int32)), .unset, .unset, .unset, .unset, .unset, .unset, .unset, .unset] [(.ref b3)])) (fun t k => st4.trans k) ?_
    refine own_go (B := T4.setTop (mkF m 44 #[.val (.int p1), .val (.int p2), .val (.int p3), .val (.ref r1), .val (.ref r2), .val (.int (0 : Int32)), .val (.ref b3), .unset, .unset, .unset, .unset, .unset, .unset, .unset] [(.ref b3)])) (fun t k => ?_) ?_
    · show Steps p.tables e below (T4.setTop (mkF m 40 #[.val (.int p1), .val (.int p2), .val (.int p3), .val (.ref r1), .val (.ref r2), .val (.int (0 : Int32)), .unset, .unset, .unset, .unset, .unset, .unset, .unset, .unset] [(.ref b3)])) _
      refine XS.astore X4.here hx rfl (hb hby at_40) rfl rfl (l' := #[.val (.int p1), .val (.int p2), .val (.int p3), .val (.ref r1), .val (.ref r2), .val (.int (0 : Int32)), .val (.ref b3), .unset, .unset, .unset, .unset, .unset, .unset, .unset]) rfl ?_
      show Steps p.tables e below (T4.setTop (mkF m 42 #[.val (.int p1), .val (.int p2), .val (.int p3), .val (.ref r1), .val (.ref r2), .val (.int (0 : Int32)), .val (.ref b3), .unset, .unset, .unset, .unset, .unset, .unset, .unset] [])) _
      refine XS.aload X4.here hx rfl (hb hby at_42) rfl rfl ?_
      show Steps p.tables e below (T4.setTop (mkF m 44 #[.val (.int p1), .val (.int p2), .val (.int p3), .val (.ref r1), .val (.ref r2), .val (.int (0 : Int32)), .val (.ref b3), .unset, .unset, .unset, .unset, .unset, .unset, .unset] [(.ref b3)])) _
      exact k
    -- pc 44: com/example/fixity/fixity/engine/AccountRequest.role
    obtain ⟨cq5, kq5, q5a, q5b, q5c⟩ := isOf hZ rfl A3
    obtain ⟨_, _, ⟨T5, L5, k5, n5⟩, -, X5, ⟨Lc5, hQ5, l5, y5, z5⟩, st5⟩ := X4.virtualBack hx (y := (⟨"com/example/fixity/fixity/engine/AccountRequest", "role", "()Ljava/util/Optional;"⟩ : MethodName)) (z := (⟨"com/example/fixity/fixity/engine/AccountRequest", "role", "()Ljava/util/Optional;"⟩ : MethodName)) hown (mvT hZ (hw _ (List.mem_of_getElem? (i := 46) rfl))) (mvT hZ (hw _ (List.mem_of_getElem? (i := 47) rfl))) (notFace_of_selects (args := #[]) (mvT hZ (hw _ (List.mem_of_getElem? (i := 49) rfl)))) (mvT hZ (hw _ (List.mem_of_getElem? (i := 49) rfl))) (mvT hZ (hw _ (List.mem_of_getElem? (i := 48) rfl))) (by decide) (backOf (W := 0) (rmG0role l Z a0 hw [] b3 wE T4.heap n0 O Gq4_1 S_E) hZ (hw _ (List.mem_of_getElem? (i := 50) rfl)) (hw _ (List.mem_of_getElem? (i := 39) rfl)) (by decide) (by decide)) q5a q5c (g := (mkF m 44 #[.val (.int p1), .val (.int p2), .val (.int p3), .val (.ref r1), .val (.ref r2), .val (.int (0 : Int32)), .val (.ref b3), .unset, .unset, .unset, .unset, .unset, .unset, .unset] [(.ref b3)])) rfl (by rw [hml]; rfl) (Steps.refl _) (argsL := []) (rest := []) (lenOf pd_7 rfl) rfl (by show 2 * 0 + _ ≤ _; exact Nat.le_of_eq rfl) (hb hby at_44) (fun _ hWm => ⟨rfl, rfl, (by decide : 9 + 0 ≤ _), (by decide : 27 + 0 ≤ _)⟩)
    dsimp only [Pt.U, Pt.locs, Pt.cells, Pt.slots] at X5 l5 y5 z5 st5 hQ5
    subst l5 y5 z5
    obtain ⟨rfl, Nq5, Kq5⟩ := hQ5
    replace N := Fr.app N Nq5
    refine own_go (B := T5.setTop (mkF m 47 #[.val (.int p1), .val (.int p2), .val (.int p3), .val (.ref r1), .val (.ref r2), .val (.int (0 : Int32)), .val (.ref b3), .unset, .unset, .unset, .unset, .unset, .unset, .unset] [(.ref wE)])) (fun t k => st5.trans k) ?_
    -- pc 47: java/util/Optional.isPresent
    obtain ⟨cq6, kq6, q6a, q6b, q6c⟩ := isOf hZ Kq5 (E_E.ext O.2)
    obtain ⟨_, _, ⟨T6, L6, k6, n6⟩, -, X6, ⟨Lc6, hQ6, l6, y6, z6⟩, st6⟩ := X5.virtualBack hx (y := (⟨"java/util/Optional", "isPresent", "()Z"⟩ : MethodName)) (z := (⟨"java/util/Optional", "isPresent", "()Z"⟩ : MethodName)) hown (mvT hZ (hw _ (List.mem_of_getElem? (i := 58) rfl))) (mvT hZ (hw _ (List.mem_of_getElem? (i := 59) rfl))) (notFace_of_selects (args := #[]) (mvT hZ (hw _ (List.mem_of_getElem? (i := 61) rfl)))) (mvT hZ (hw _ (List.mem_of_getElem? (i := 61) rfl))) (mvT hZ (hw _ (List.mem_of_getElem? (i := 60) rfl))) (by decide) (backOf (W := 0) (rmIP0 l Z a0 hw [] wE T4.heap n0 O (F_E.ext O.2)) hZ (hw _ (List.mem_of_getElem? (i := 62) rfl)) (hw _ (List.mem_of_getElem? (i := 55) rfl)) (by decide) (by decide)) q6a q6c (g := (mkF m 47 #[.val (.int p1), .val (.int p2), .val (.int p3), .val (.ref r1), .val (.ref r2), .val (.int (0 : Int32)), .val (.ref b3), .unset, .unset, .unset, .unset, .unset, .unset, .unset] [(.ref wE)])) rfl (by rw [hml]; rfl) (Steps.refl _) (argsL := []) (rest := []) (lenOf pd_8 rfl) rfl (by show 2 * 0 + _ ≤ _; exact Nat.le_of_eq rfl) (hb hby at_47) (fun _ hWm => ⟨rfl, Kq5, (by decide : 9 + 0 ≤ _), (by decide : 27 + 0 ≤ _)⟩)
    dsimp only [Pt.U, Pt.locs, Pt.cells, Pt.slots] at X6 l6 y6 z6 st6 hQ6
    subst l6 y6 z6
    obtain ⟨rfl, Nq6, Kq6⟩ := hQ6
    replace N := Fr.app N Nq6
    refine own_go (B := T6.setTop (mkF m 50 #[.val (.int p1), .val (.int p2), .val (.int p3), .val (.ref r1), .val (.ref r2), .val (.int (0 : Int32)), .val (.ref b3), .unset, .unset, .unset, .unset, .unset, .unset, .unset] [(.int (0 : Int32))])) (fun t k => st6.trans k) ?_
    refine own_go (B := T6.setTop (mkF m 63 #[.val (.int p1), .val (.int p2), .val (.int p3), .val (.ref r1), .val (.ref r2), .val (.int (0 : Int32)), .val (.ref b3), .val (.int (1 : Int32)), .unset, .unset, .unset, .unset, .unset, .unset] [(.ref r1), (.ref b3)])) (fun t k => ?_) ?_
    · show Steps p.tables e below (T6.setTop (mkF m 50 #[.val (.int p1), .val (.int p2), .val (.int p3), .val (.ref r1), .val (.ref r2), .val (.int (0 : Int32)), .val (.ref b3), .unset, .unset, .unset, .unset, .unset, .unset, .unset] [(.int (0 : Int32))])) _
      refine XS.ifNo X6.here hx rfl (hb hby at_50) rfl ((if0 _ _).trans (teq (by decide)).2) ?_
      show Steps p.tables e below (T6.setTop (mkF m 53 #[.val (.int p1), .val (.int p2), .val (.int p3), .val (.ref r1), .val (.ref r2), .val (.int (0 : Int32)), .val (.ref b3), .unset, .unset, .unset, .unset, .unset, .unset, .unset] [])) _
      refine XS.iconst X6.here hx rfl (hb hby at_53) ?_
      show Steps p.tables e below (T6.setTop (mkF m 54 #[.val (.int p1), .val (.int p2), .val (.int p3), .val (.ref r1), .val (.ref r2), .val (.int (0 : Int32)), .val (.ref b3), .unset, .unset, .unset, .unset, .unset, .unset, .unset] [(.int (1 : Int32))])) _
      refine XS.goto X6.here hx rfl (pc0 := 54) (pc' := 58) rfl (hb hby at_54) (by decide) (by decide) ?_
      show Steps p.tables e below (T6.setTop (mkF m 58 #[.val (.int p1), .val (.int p2), .val (.int p3), .val (.ref r1), .val (.ref r2), .val (.int (0 : Int32)), .val (.ref b3), .unset, .unset, .unset, .unset, .unset, .unset, .unset] [(.int (1 : Int32))])) _
      refine XS.istore X6.here hx rfl (hb hby at_58) rfl (l' := #[.val (.int p1), .val (.int p2), .val (.int p3), .val (.ref r1), .val (.ref r2), .val (.int (0 : Int32)), .val (.ref b3), .val (.int (1 : Int32)), .unset, .unset, .unset, .unset, .unset, .unset]) rfl ?_
      show Steps p.tables e below (T6.setTop (mkF m 60 #[.val (.int p1), .val (.int p2), .val (.int p3), .val (.ref r1), .val (.ref r2), .val (.int (0 : Int32)), .val (.ref b3), .val (.int (1 : Int32)), .unset, .unset, .unset, .unset, .unset, .unset] [])) _
      refine XS.aload X6.here hx rfl (hb hby at_60) rfl rfl ?_
      show Steps p.tables e below (T6.setTop (mkF m 62 #[.val (.int p1), .val (.int p2), .val (.int p3), .val (.ref r1), .val (.ref r2), .val (.int (0 : Int32)), .val (.ref b3), .val (.int (1 : Int32)), .unset, .unset, .unset, .unset, .unset, .unset] [(.ref b3)])) _
      refine XS.aloadN X6.here hx rfl (hb hby at_62) rfl rfl ?_
      show Steps p.tables e below (T6.setTop (mkF m 63 #[.val (.int p1), .val (.int p2), .val (.int p3), .val (.ref r1), .val (.ref r2), .val (.int (0 : Int32)), .val (.ref b3), .val (.int (1 : Int32)), .unset, .unset, .unset, .unset, .unset, .unset] [(.ref r1), (.ref b3)])) _
      exact k
    -- pc 63: com/example/fixity/fixity/engine/AccountRequest.role
    obtain ⟨cq7, kq7, q7a, q7b, q7c⟩ := isOf hZ Kq6 A3
    obtain ⟨_, _, ⟨T7, L7, k7, n7⟩, -, X7, hSq7, hgq7, ⟨Lc7, hQ7, l7, y7, z7⟩, st7⟩ := X6.virtualBackS hx (y := (⟨"com/example/fixity/fixity/engine/AccountRequest", "role", "(Ljava/lang/String;)Lcom/example/fixity/fixity/engine/AccountRequest;"⟩ : MethodName)) (z := (⟨"com/example/fixity/fixity/engine/AccountRequest", "role", "(Ljava/lang/String;)Lcom/example/fixity/fixity/engine/AccountRequest;"⟩ : MethodName)) hown (mvT hZ (hw _ (List.mem_of_getElem? (i := 65) rfl))) (mvT hZ (hw _ (List.mem_of_getElem? (i := 66) rfl))) (notFace_of_selects (args := #[]) (mvT hZ (hw _ (List.mem_of_getElem? (i := 68) rfl)))) (mvT hZ (hw _ (List.mem_of_getElem? (i := 68) rfl))) (mvT hZ (hw _ (List.mem_of_getElem? (i := 67) rfl))) (by decide) (backOfS (W := 0) (rmSetrole l Z a0 hw [] b3 r1 (.null) T4.heap n0 O A3 Gq4_1 Gq4_0 Gq4_2 Gq4_3 Gq1_0 g_b3) hZ (hw _ (List.mem_of_getElem? (i := 69) rfl)) (hw _ (List.mem_of_getElem? (i := 39) rfl)) (by decide) (by decide)) q7a q7c (g := (mkF m 63 #[.val (.int p1), .val (.int p2), .val (.int p3), .val (.ref r1), .val (.ref r2), .val (.int (0 : Int32)), .val (.ref b3), .val (.int (1 : Int32)), .unset, .unset, .unset, .unset, .unset, .unset] [(.ref r1), (.ref b3)])) rfl (by rw [hml]; rfl) (Steps.refl _) (argsL := [(.ref r1)]) (rest := []) (lenOf pd_9 rfl) rfl (by show 2 * 0 + _ ≤ _; exact Nat.le_of_eq rfl) (hb hby at_63) (fun _ hWm => ⟨rfl, Kq6, (by decide : 9 + 2 ≤ _), (by decide : 27 + 24 ≤ _)⟩)
    dsimp only [Pt.U, Pt.locs, Pt.cells, Pt.slots] at X7 l7 y7 z7 st7 hQ7 hSq7 hgq7
    subst l7 y7 z7
    obtain ⟨X7, hS, hZ, hown⟩ := rebS hS (by rw [Kq6]; exact hk) X7 hSq7 hgq7 hZ hown
    obtain ⟨rfl, Nq7, Kq7, Gq7_0, Gq7_1, Gq7_2, Gq7_3⟩ := hQ7
    replace N := Fr.app N Nq7
    replace Gq1_0 := Gq1_0.keep Kq7
    replace Gq2_0 := Gq2_0.keep Kq7
    replace A3 := A3.keep Kq7
    clear Gq4_0
    clear Gq4_1
    clear Gq4_2
    clear Gq4_3
    replace O := O.keep Kq7 (allS g_b3 all0)
    have hk : T7.heap.size ≤ T7.heap.size := Nat.le_refl _
    refine own_go (B := T7.setTop (mkF m 66 #[.val (.int p1), .val (.int p2), .val (.int p3), .val (.ref r1), .val (.ref r2), .val (.int (0 : Int32)), .val (.ref b3), .val (.int (1 : Int32)), .unset, .unset, .unset, .unset, .unset, .unset] [(.ref b3)])) (fun t k => st7.trans k) ?_
    refine own_go (B := T7.setTop (mkF m 70 #[.val (.int p1), .val (.int p2), .val (.int p3), .val (.ref r1), .val (.ref r2), .val (.int (0 : Int32)), .val (.ref b3), .val (.int (1 : Int32)), .val (.ref b3), .unset, .unset, .unset, .unset, .unset] [(.ref b3)])) (fun t k => ?_) ?_
    · show Steps p.tables e below (T7.setTop (mkF m 66 #[.val (.int p1), .val (.int p2), .val (.int p3), .val (.ref r1), .val (.ref r2), .val (.int (0 : Int32)), .val (.ref b3), .val (.int (1 : Int32)), .unset, .unset, .unset, .unset, .unset, .unset] [(.ref b3)])) _
      refine XS.astore X7.here hx rfl (hb hby at_66) rfl rfl (l' := #[.val (.int p1), .val (.int p2), .val (.int p3), .val (.ref r1), .val (.ref r2), .val (.int (0 : Int32)), .val (.ref b3), .val (.int (1 : Int32)), .val (.ref b3), .unset, .unset, .unset, .unset, .unset]) rfl ?_
      show Steps p.tables e below (T7.setTop (mkF m 68 #[.val (.int p1), .val (.int p2), .val (.int p3), .val (.ref r1), .val (.ref r2), .val (.int (0 : Int32)), .val (.ref b3), .val (.int (1 : Int32)), .val (.ref b3), .unset, .unset, .unset, .unset, .unset] [])) _
      refine XS.aload X7.here hx rfl (hb hby at_68) rfl rfl ?_
      show Steps p.tables e below (T7.setTop (mkF m 70 #[.val (.int p1), .val (.int p2), .val (.int p3), .val (.ref r1), .val (.ref r2), .val (.int (0 : Int32)), .val (.ref b3), .val (.int (1 : Int32)), .val (.ref b3), .unset, .unset, .unset, .unset, .unset] [(.ref b3)])) _
      exact k
    -- pc 70: com/example/fixity/fixity/engine/AccountRequest.role
    obtain ⟨cq8, kq8, q8a, q8b, q8c⟩ := isOf hZ rfl A3
    obtain ⟨_, _, ⟨T8, L8, k8, n8⟩, -, X8, ⟨Lc8, hQ8, l8, y8, z8⟩, st8⟩ := X7.virtualBack hx (y := (⟨"com/example/fixity/fixity/engine/AccountRequest", "role", "()Ljava/util/Optional;"⟩ : MethodName)) (z := (⟨"com/example/fixity/fixity/engine/AccountRequest", "role", "()Ljava/util/Optional;"⟩ : MethodName)) hown (mvT hZ (hw _ (List.mem_of_getElem? (i := 46) rfl))) (mvT hZ (hw _ (List.mem_of_getElem? (i := 47) rfl))) (notFace_of_selects (args := #[]) (mvT hZ (hw _ (List.mem_of_getElem? (i := 49) rfl)))) (mvT hZ (hw _ (List.mem_of_getElem? (i := 49) rfl))) (mvT hZ (hw _ (List.mem_of_getElem? (i := 48) rfl))) (by decide) (backOf (W := 0) (rmG1role l Z a0 hw [] b3 r1 T7.heap n0 O Gq7_0) hZ (hw _ (List.mem_of_getElem? (i := 50) rfl)) (hw _ (List.mem_of_getElem? (i := 39) rfl)) (by decide) (by decide)) q8a q8c (g := (mkF m 70 #[.val (.int p1), .val (.int p2), .val (.int p3), .val (.ref r1), .val (.ref r2), .val (.int (0 : Int32)), .val (.ref b3), .val (.int (1 : Int32)), .val (.ref b3), .unset, .unset, .unset, .unset, .unset] [(.ref b3)])) rfl (by rw [hml]; rfl) (Steps.refl _) (argsL := []) (rest := []) (lenOf pd_7 rfl) rfl (by show 2 * 0 + _ ≤ _; exact Nat.le_of_eq rfl) (hb hby at_70) (fun _ hWm => ⟨rfl, rfl, (by decide : 11 + 1 ≤ _), (by decide : 51 + 1 ≤ _)⟩)
    dsimp only [Pt.U, Pt.locs, Pt.cells, Pt.slots] at X8 l8 y8 z8 st8 hQ8
    subst l8 y8 z8
    obtain ⟨r8, rfl, Nq8, Kq8, fq8_r, Gq8_0, Gq8_1⟩ := hQ8
    replace N := Fr.app N Nq8
    have lt_r1_r8 : r1 < r8 := Nat.lt_of_lt_of_le Gq1_0.lt fq8_r
    have lt_r2_r8 : r2 < r8 := Nat.lt_of_lt_of_le Gq2_0.lt fq8_r
    have lt_b3_r8 : b3 < r8 := Nat.lt_of_lt_of_le A3.lt fq8_r
    have g_r8 : n0 ≤ r8 := Nat.le_trans (own_oldsz O) fq8_r
    replace Gq1_0 := Gq1_0.keep Kq8
    replace Gq2_0 := Gq2_0.keep Kq8
    replace A3 := A3.keep Kq8
    replace Gq7_0 := Gq7_0.keep Kq8 nin0
    replace Gq7_1 := Gq7_1.keep Kq8 nin0
    replace Gq7_2 := Gq7_2.keep Kq8 nin0
    replace Gq7_3 := Gq7_3.keep Kq8 nin0
    replace O := O.keep Kq8 all0
    replace hk := Nat.le_trans hk Kq8.1
    refine own_go (B := T8.setTop (mkF m 73 #[.val (.int p1), .val (.int p2), .val (.int p3), .val (.ref r1), .val (.ref r2), .val (.int (0 : Int32)), .val (.ref b3), .val (.int (1 : Int32)), .val (.ref b3), .unset, .unset, .unset, .unset, .unset] [(.ref r8)])) (fun t k => st8.trans k) ?_
    refine own_go (B := T8.setTop (mkF m 84 #[.val (.int p1), .val (.int p2), .val (.int p3), .val (.ref r1), .val (.ref r2), .val (.int (0 : Int32)), .val (.ref b3), .val (.int (1 : Int32)), .val (.ref b3), .val (.ref r8), .unset, .unset, .unset, .unset] [(.ref r8)])) (fun t k => ?_) ?_
    · show Steps p.tables e below (T8.setTop (mkF m 73 #[.val (.int p1), .val (.int p2), .val (.int p3), .val (.ref r1), .val (.ref r2), .val (.int (0 : Int32)), .val (.ref b3), .val (.int (1 : Int32)), .val (.ref b3), .unset, .unset, .unset, .unset, .unset] [(.ref r8)])) _
      refine XS.astore X8.here hx rfl (hb hby at_73) rfl rfl (l' := #[.val (.int p1), .val (.int p2), .val (.int p3), .val (.ref r1), .val (.ref r2), .val (.int (0 : Int32)), .val (.ref b3), .val (.int (1 : Int32)), .val (.ref b3), .val (.ref r8), .unset, .unset, .unset, .unset]) rfl ?_
      show Steps p.tables e below (T8.setTop (mkF m 75 #[.val (.int p1), .val (.int p2), .val (.int p3), .val (.ref r1), .val (.ref r2), .val (.int (0 : Int32)), .val (.ref b3), .val (.int (1 : Int32)), .val (.ref b3), .val (.ref r8), .unset, .unset, .unset, .unset] [])) _
      refine XS.aload X8.here hx rfl (hb hby at_75) rfl rfl ?_
      show Steps p.tables e below (T8.setTop (mkF m 77 #[.val (.int p1), .val (.int p2), .val (.int p3), .val (.ref r1), .val (.ref r2), .val (.int (0 : Int32)), .val (.ref b3), .val (.int (1 : Int32)), .val (.ref b3), .val (.ref r8), .unset, .unset, .unset, .unset] [(.ref b3)])) _
      refine XS.aload X8.here hx rfl (hb hby at_77) rfl rfl ?_
      show Steps p.tables e below (T8.setTop (mkF m 79 #[.val (.int p1), .val (.int p2), .val (.int p3), .val (.ref r1), .val (.ref r2), .val (.int (0 : Int32)), .val (.ref b3), .val (.int (1 : Int32)), .val (.ref b3), .val (.ref r8), .unset, .unset, .unset, .unset] [(.ref b3), (.ref b3)])) _
      refine Jvm.RoadKit.acmp (g := (mkF m 79 #[.val (.int p1), .val (.int p2), .val (.int p3), .val (.ref r1), .val (.ref r2), .val (.int (0 : Int32)), .val (.ref b3), .val (.int (1 : Int32)), .val (.ref b3), .val (.ref r8), .unset, .unset, .unset, .unset] [(.ref b3), (.ref b3)])) X8 hx rfl rfl rfl (pc0 := 79) (pc' := 82) (same := true) rfl (hb hby at_79) rfl (decide_eq_true (congrArg Value.ref rfl)) (by decide) (by decide) ?_
      show Steps p.tables e below (T8.setTop (mkF m 82 #[.val (.int p1), .val (.int p2), .val (.int p3), .val (.ref r1), .val (.ref r2), .val (.int (0 : Int32)), .val (.ref b3), .val (.int (1 : Int32)), .val (.ref b3), .val (.ref r8), .unset, .unset, .unset, .unset] [])) _
      refine XS.aload X8.here hx rfl (hb hby at_82) rfl rfl ?_
      show Steps p.tables e below (T8.setTop (mkF m 84 #[.val (.int p1), .val (.int p2), .val (.int p3), .val (.ref r1), .val (.ref r2), .val (.int (0 : Int32)), .val (.ref b3), .val (.int (1 : Int32)), .val (.ref b3), .val (.ref r8), .unset, .unset, .unset, .unset] [(.ref r8)])) _
      exact k
    -- pc 84: java/util/Optional.isPresent
    obtain ⟨cq9, kq9, q9a, q9b, q9c⟩ := isOf hZ rfl Gq8_0
    obtain ⟨_, _, ⟨T9, L9, k9, n9⟩, -, X9, ⟨Lc9, hQ9, l9, y9, z9⟩, st9⟩ := X8.virtualBack hx (y := (⟨"java/util/Optional", "isPresent", "()Z"⟩ : MethodName)) (z := (⟨"java/util/Optional", "isPresent", "()Z"⟩ : MethodName)) hown (mvT hZ (hw _ (List.mem_of_getElem? (i := 58) rfl))) (mvT hZ (hw _ (List.mem_of_getElem? (i := 59) rfl))) (notFace_of_selects (args := #[]) (mvT hZ (hw _ (List.mem_of_getElem? (i := 61) rfl)))) (mvT hZ (hw _ (List.mem_of_getElem? (i := 61) rfl))) (mvT hZ (hw _ (List.mem_of_getElem? (i := 60) rfl))) (by decide) (backOf (W := 0) (rmIP1 l Z a0 hw [] r8 r1 T8.heap n0 O Gq8_1) hZ (hw _ (List.mem_of_getElem? (i := 62) rfl)) (hw _ (List.mem_of_getElem? (i := 55) rfl)) (by decide) (by decide)) q9a q9c (g := (mkF m 84 #[.val (.int p1), .val (.int p2), .val (.int p3), .val (.ref r1), .val (.ref r2), .val (.int (0 : Int32)), .val (.ref b3), .val (.int (1 : Int32)), .val (.ref b3), .val (.ref r8), .unset, .unset, .unset, .unset] [(.ref r8)])) rfl (by rw [hml]; rfl) (Steps.refl _) (argsL := []) (rest := []) (lenOf pd_8 rfl) rfl (by show 2 * 0 + _ ≤ _; exact Nat.le_of_eq rfl) (hb hby at_84) (fun _ hWm => ⟨rfl, rfl, (by decide : 12 + 0 ≤ _), (by decide : 52 + 0 ≤ _)⟩)
    dsimp only [Pt.U, Pt.locs, Pt.cells, Pt.slots] at X9 l9 y9 z9 st9 hQ9
    subst l9 y9 z9
    obtain ⟨rfl, Nq9, Kq9⟩ := hQ9
    replace N := Fr.app N Nq9
    refine own_go (B := T9.setTop (mkF m 87 #[.val (.int p1), .val (.int p2), .val (.int p3), .val (.ref r1), .val (.ref r2), .val (.int (0 : Int32)), .val (.ref b3), .val (.int (1 : Int32)), .val (.ref b3), .val (.ref r8), .unset, .unset, .unset, .unset] [(.int (1 : Int32))])) (fun t k => st9.trans k) ?_
    refine own_go (B := T9.setTop (mkF m 92 #[.val (.int p1), .val (.int p2), .val (.int p3), .val (.ref r1), .val (.ref r2), .val (.int (0 : Int32)), .val (.ref b3), .val (.int (1 : Int32)), .val (.ref b3), .val (.ref r8), .unset, .unset, .unset, .unset] [(.ref r8)])) (fun t k => ?_) ?_
    · show Steps p.tables e below (T9.setTop (mkF m 87 #[.val (.int p1), .val (.int p2), .val (.int p3), .val (.ref r1), .val (.ref r2), .val (.int (0 : Int32)), .val (.ref b3), .val (.int (1 : Int32)), .val (.ref b3), .val (.ref r8), .unset, .unset, .unset, .unset] [(.int (1 : Int32))])) _
      refine XS.ifNo X9.here hx rfl (hb hby at_87) rfl ((if0 _ _).trans (feq (by decide)).1) ?_
      show Steps p.tables e below (T9.setTop (mkF m 90 #[.val (.int p1), .val (.int p2), .val (.int p3), .val (.ref r1), .val (.ref r2), .val (.int (0 : Int32)), .val (.ref b3), .val (.int (1 : Int32)), .val (.ref b3), .val (.ref r8), .unset, .unset, .unset, .unset] [])) _
      refine XS.aload X9.here hx rfl (hb hby at_90) rfl rfl ?_
      show Steps p.tables e below (T9.setTop (mkF m 92 #[.val (.int p1), .val (.int p2), .val (.int p3), .val (.ref r1), .val (.ref r2), .val (.int (0 : Int32)), .val (.ref b3), .val (.int (1 : Int32)), .val (.ref b3), .val (.ref r8), .unset, .unset, .unset, .unset] [(.ref r8)])) _
      exact k
    -- pc 92: java/util/Optional.get
    obtain ⟨cq10, kq10, q10a, q10b, q10c⟩ := isOf hZ Kq9 Gq8_0
    obtain ⟨_, _, ⟨T10, L10, k10, n10⟩, -, X10, ⟨Lc10, hQ10, l10, y10, z10⟩, st10⟩ := X9.virtualBack hx (y := (⟨"java/util/Optional", "get", "()Ljava/lang/Object;"⟩ : MethodName)) (z := (⟨"java/util/Optional", "get", "()Ljava/lang/Object;"⟩ : MethodName)) hown (mvT hZ (hw _ (List.mem_of_getElem? (i := 83) rfl))) (mvT hZ (hw _ (List.mem_of_getElem? (i := 84) rfl))) (notFace_of_selects (args := #[]) (mvT hZ (hw _ (List.mem_of_getElem? (i := 86) rfl)))) (mvT hZ (hw _ (List.mem_of_getElem? (i := 86) rfl))) (mvT hZ (hw _ (List.mem_of_getElem? (i := 85) rfl))) (by decide) (backOf (W := 0) (rmOG l Z a0 hw [] r8 r1 T8.heap n0 O Gq8_1) hZ (hw _ (List.mem_of_getElem? (i := 87) rfl)) (hw _ (List.mem_of_getElem? (i := 55) rfl)) (by decide) (by decide)) q10a q10c (g := (mkF m 92 #[.val (.int p1), .val (.int p2), .val (.int p3), .val (.ref r1), .val (.ref r2), .val (.int (0 : Int32)), .val (.ref b3), .val (.int (1 : Int32)), .val (.ref b3), .val (.ref r8), .unset, .unset, .unset, .unset] [(.ref r8)])) rfl (by rw [hml]; rfl) (Steps.refl _) (argsL := []) (rest := []) (lenOf pd_10 rfl) rfl (by show 2 * 0 + _ ≤ _; exact Nat.le_of_eq rfl) (hb hby at_92) (fun _ hWm => ⟨rfl, Kq9, (by decide : 12 + 0 ≤ _), (by decide : 52 + 0 ≤ _)⟩)
    dsimp only [Pt.U, Pt.locs, Pt.cells, Pt.slots] at X10 l10 y10 z10 st10 hQ10
    subst l10 y10 z10
    obtain ⟨rfl, Nq10, Kq10⟩ := hQ10
    replace N := Fr.app N Nq10
    refine own_go (B := T10.setTop (mkF m 95 #[.val (.int p1), .val (.int p2), .val (.int p3), .val (.ref r1), .val (.ref r2), .val (.int (0 : Int32)), .val (.ref b3), .val (.int (1 : Int32)), .val (.ref b3), .val (.ref r8), .unset, .unset, .unset, .unset] [(.ref r1)])) (fun t k => st10.trans k) ?_
    obtain ⟨T11, X11, e11, st11⟩ := castY X10 hx hZ hown (hw _ (List.mem_of_getElem? (i := 4) rfl)) Kq10 (Ins.self Gq1_0) (g := (mkF m 95 #[.val (.int p1), .val (.int p2), .val (.int p3), .val (.ref r1), .val (.ref r2), .val (.int (0 : Int32)), .val (.ref b3), .val (.int (1 : Int32)), .val (.ref b3), .val (.ref r8), .unset, .unset, .unset, .unset] [(.ref r1)])) rfl rfl (hb hby at_95)
    refine own_go (B := T11.setTop (mkF m 98 #[.val (.int p1), .val (.int p2), .val (.int p3), .val (.ref r1), .val (.ref r2), .val (.int (0 : Int32)), .val (.ref b3), .val (.int (1 : Int32)), .val (.ref b3), .val (.ref r8), .unset, .unset, .unset, .unset] [(.ref r1)])) st11 ?_
    refine own_go (B := T11.setTop (mkF m 99 #[.val (.int p1), .val (.int p2), .val (.int p3), .val (.ref r1), .val (.ref r2), .val (.int (0 : Int32)), .val (.ref b3), .val (.int (1 : Int32)), .val (.ref b3), .val (.ref r8), .unset, .unset, .unset, .unset] [(.ref r1), (.ref r1)])) (fun t k => ?_) ?_
    · show Steps p.tables e below (T11.setTop (mkF m 98 #[.val (.int p1), .val (.int p2), .val (.int p3), .val (.ref r1), .val (.ref r2), .val (.int (0 : Int32)), .val (.ref b3), .val (.int (1 : Int32)), .val (.ref b3), .val (.ref r8), .unset, .unset, .unset, .unset] [(.ref r1)])) _
      refine XS.aloadN X11.here hx rfl (hb hby at_98) rfl rfl ?_
      show Steps p.tables e below (T11.setTop (mkF m 99 #[.val (.int p1), .val (.int p2), .val (.int p3), .val (.ref r1), .val (.ref r2), .val (.int (0 : Int32)), .val (.ref b3), .val (.int (1 : Int32)), .val (.ref b3), .val (.ref r8), .unset, .unset, .unset, .unset] [(.ref r1), (.ref r1)])) _
      exact k
    -- pc 99: java/lang/String.equals
    obtain ⟨cq12, kq12, q12a, q12b, q12c⟩ := isOf hZ e11 Gq1_0
    obtain ⟨_, _, ⟨T12, L12, k12, n12⟩, -, X12, ⟨Lc12, hQ12, l12, y12, z12⟩, st12⟩ := X11.virtualBack hx (y := (⟨"java/lang/String", "equals", "(Ljava/lang/Object;)Z"⟩ : MethodName)) (z := (⟨"java/lang/String", "equals", "(Ljava/lang/Object;)Z"⟩ : MethodName)) hown (mvT hZ (hw _ (List.mem_of_getElem? (i := 88) rfl))) (mvT hZ (hw _ (List.mem_of_getElem? (i := 89) rfl))) (notFace_of_selects (args := #[]) (mvT hZ (hw _ (List.mem_of_getElem? (i := 91) rfl)))) (mvT hZ (hw _ (List.mem_of_getElem? (i := 91) rfl))) (mvT hZ (hw _ (List.mem_of_getElem? (i := 90) rfl))) (by decide) (backOf (W := 0) (rmEqS l Z a0 hw [] r1 T8.heap n0 O ) hZ (hw _ (List.mem_of_getElem? (i := 92) rfl)) (hw _ (List.mem_of_getElem? (i := 6) rfl)) (by decide) (by decide)) q12a q12c (g := (mkF m 99 #[.val (.int p1), .val (.int p2), .val (.int p3), .val (.ref r1), .val (.ref r2), .val (.int (0 : Int32)), .val (.ref b3), .val (.int (1 : Int32)), .val (.ref b3), .val (.ref r8), .unset, .unset, .unset, .unset] [(.ref r1), (.ref r1)])) rfl (by rw [hml]; rfl) (Steps.refl _) (argsL := [(.ref r1)]) (rest := []) (lenOf pd_11 rfl) rfl (by show 2 * 0 + _ ≤ _; exact Nat.le_of_eq rfl) (hb hby at_99) (fun _ hWm => ⟨rfl, e11, (by decide : 12 + 0 ≤ _), (by decide : 52 + 0 ≤ _)⟩)
    dsimp only [Pt.U, Pt.locs, Pt.cells, Pt.slots] at X12 l12 y12 z12 st12 hQ12
    subst l12 y12 z12
    obtain ⟨rfl, Nq12, Kq12⟩ := hQ12
    replace N := Fr.app N Nq12
    refine own_go (B := T12.setTop (mkF m 102 #[.val (.int p1), .val (.int p2), .val (.int p3), .val (.ref r1), .val (.ref r2), .val (.int (0 : Int32)), .val (.ref b3), .val (.int (1 : Int32)), .val (.ref b3), .val (.ref r8), .unset, .unset, .unset, .unset] [(.int (1 : Int32))])) (fun t k => st12.trans k) ?_
    refine own_go (B := T12.setTop (mkF m 176 #[.val (.int p1), .val (.int p2), .val (.int p3), .val (.ref r1), .val (.ref r2), .val (.int (0 : Int32)), .val (.ref b3), .val (.int (1 : Int32)), .val (.ref b3), .val (.ref r8), .val (.int (1 : Int32)), .val (.int (1 : Int32)), .unset, .unset] [(.ref b3)])) (fun t k => ?_) ?_
    · show Steps p.tables e below (T12.setTop (mkF m 102 #[.val (.int p1), .val (.int p2), .val (.int p3), .val (.ref r1), .val (.ref r2), .val (.int (0 : Int32)), .val (.ref b3), .val (.int (1 : Int32)), .val (.ref b3), .val (.ref r8), .unset, .unset, .unset, .unset] [(.int (1 : Int32))])) _
      refine XS.ifNo X12.here hx rfl (hb hby at_102) rfl ((if0 _ _).trans (feq (by decide)).1) ?_
      show Steps p.tables e below (T12.setTop (mkF m 105 #[.val (.int p1), .val (.int p2), .val (.int p3), .val (.ref r1), .val (.ref r2), .val (.int (0 : Int32)), .val (.ref b3), .val (.int (1 : Int32)), .val (.ref b3), .val (.ref r8), .unset, .unset, .unset, .unset] [])) _
      refine XS.iconst X12.here hx rfl (hb hby at_105) ?_
      show Steps p.tables e below (T12.setTop (mkF m 106 #[.val (.int p1), .val (.int p2), .val (.int p3), .val (.ref r1), .val (.ref r2), .val (.int (0 : Int32)), .val (.ref b3), .val (.int (1 : Int32)), .val (.ref b3), .val (.ref r8), .unset, .unset, .unset, .unset] [(.int (1 : Int32))])) _
      refine XS.goto X12.here hx rfl (pc0 := 106) (pc' := 110) rfl (hb hby at_106) (by decide) (by decide) ?_
      show Steps p.tables e below (T12.setTop (mkF m 110 #[.val (.int p1), .val (.int p2), .val (.int p3), .val (.ref r1), .val (.ref r2), .val (.int (0 : Int32)), .val (.ref b3), .val (.int (1 : Int32)), .val (.ref b3), .val (.ref r8), .unset, .unset, .unset, .unset] [(.int (1 : Int32))])) _
      refine XS.istore X12.here hx rfl (hb hby at_110) rfl (l' := #[.val (.int p1), .val (.int p2), .val (.int p3), .val (.ref r1), .val (.ref r2), .val (.int (0 : Int32)), .val (.ref b3), .val (.int (1 : Int32)), .val (.ref b3), .val (.ref r8), .val (.int (1 : Int32)), .unset, .unset, .unset]) rfl ?_
      show Steps p.tables e below (T12.setTop (mkF m 112 #[.val (.int p1), .val (.int p2), .val (.int p3), .val (.ref r1), .val (.ref r2), .val (.int (0 : Int32)), .val (.ref b3), .val (.int (1 : Int32)), .val (.ref b3), .val (.ref r8), .val (.int (1 : Int32)), .unset, .unset, .unset] [])) _
      refine XS.iconst X12.here hx rfl (hb hby at_112) ?_
      show Steps p.tables e below (T12.setTop (mkF m 113 #[.val (.int p1), .val (.int p2), .val (.int p3), .val (.ref r1), .val (.ref r2), .val (.int (0 : Int32)), .val (.ref b3), .val (.int (1 : Int32)), .val (.ref b3), .val (.ref r8), .val (.int (1 : Int32)), .unset, .unset, .unset] [(.int (1 : Int32))])) _
      refine XS.istore X12.here hx rfl (hb hby at_113) rfl (l' := #[.val (.int p1), .val (.int p2), .val (.int p3), .val (.ref r1), .val (.ref r2), .val (.int (0 : Int32)), .val (.ref b3), .val (.int (1 : Int32)), .val (.ref b3), .val (.ref r8), .val (.int (1 : Int32)), .val (.int (1 : Int32)), .unset, .unset]) rfl ?_
      show Steps p.tables e below (T12.setTop (mkF m 115 #[.val (.int p1), .val (.int p2), .val (.int p3), .val (.ref r1), .val (.ref r2), .val (.int (0 : Int32)), .val (.ref b3), .val (.int (1 : Int32)), .val (.ref b3), .val (.ref r8), .val (.int (1 : Int32)), .val (.int (1 : Int32)), .unset, .unset] [])) _
      refine XS.iload X12.here hx rfl (hb hby at_115) rfl ?_
      show Steps p.tables e below (T12.setTop (mkF m 117 #[.val (.int p1), .val (.int p2), .val (.int p3), .val (.ref r1), .val (.ref r2), .val (.int (0 : Int32)), .val (.ref b3), .val (.int (1 : Int32)), .val (.ref b3), .val (.ref r8), .val (.int (1 : Int32)), .val (.int (1 : Int32)), .unset, .unset] [(.int (0 : Int32))])) _
      refine XS.ifYes X12.here hx rfl (pc0 := 117) (pc' := 174) rfl (hb hby at_117) rfl ((if0 _ _).trans (teq (by decide)).1) (by decide) (by decide) ?_
      show Steps p.tables e below (T12.setTop (mkF m 174 #[.val (.int p1), .val (.int p2), .val (.int p3), .val (.ref r1), .val (.ref r2), .val (.int (0 : Int32)), .val (.ref b3), .val (.int (1 : Int32)), .val (.ref b3), .val (.ref r8), .val (.int (1 : Int32)), .val (.int (1 : Int32)), .unset, .unset] [])) _
      refine XS.aload X12.here hx rfl (hb hby at_174) rfl rfl ?_
      show Steps p.tables e below (T12.setTop (mkF m 176 #[.val (.int p1), .val (.int p2), .val (.int p3), .val (.ref r1), .val (.ref r2), .val (.int (0 : Int32)), .val (.ref b3), .val (.int (1 : Int32)), .val (.ref b3), .val (.ref r8), .val (.int (1 : Int32)), .val (.int (1 : Int32)), .unset, .unset] [(.ref b3)])) _
      exact k
    -- pc 176: com/example/fixity/fixity/engine/AccountRequest.unreadable
    obtain ⟨cq13, kq13, q13a, q13b, q13c⟩ := isOf hZ Kq12 A3
    obtain ⟨_, _, ⟨T13, L13, k13, n13⟩, -, X13, ⟨Lc13, hQ13, l13, y13, z13⟩, st13⟩ := X12.virtualBack hx (y := (⟨"com/example/fixity/fixity/engine/AccountRequest", "unreadable", "()Ljava/util/Optional;"⟩ : MethodName)) (z := (⟨"com/example/fixity/fixity/engine/AccountRequest", "unreadable", "()Ljava/util/Optional;"⟩ : MethodName)) hown (mvT hZ (hw _ (List.mem_of_getElem? (i := 93) rfl))) (mvT hZ (hw _ (List.mem_of_getElem? (i := 94) rfl))) (notFace_of_selects (args := #[]) (mvT hZ (hw _ (List.mem_of_getElem? (i := 96) rfl)))) (mvT hZ (hw _ (List.mem_of_getElem? (i := 96) rfl))) (mvT hZ (hw _ (List.mem_of_getElem? (i := 95) rfl))) (by decide) (backOf (W := 0) (rmG0unreadable l Z a0 hw [] b3 wE T8.heap n0 O Gq7_1 S_E) hZ (hw _ (List.mem_of_getElem? (i := 97) rfl)) (hw _ (List.mem_of_getElem? (i := 39) rfl)) (by decide) (by decide)) q13a q13c (g := (mkF m 176 #[.val (.int p1), .val (.int p2), .val (.int p3), .val (.ref r1), .val (.ref r2), .val (.int (0 : Int32)), .val (.ref b3), .val (.int (1 : Int32)), .val (.ref b3), .val (.ref r8), .val (.int (1 : Int32)), .val (.int (1 : Int32)), .unset, .unset] [(.ref b3)])) rfl (by rw [hml]; rfl) (Steps.refl _) (argsL := []) (rest := []) (lenOf pd_7 rfl) rfl (by show 2 * 0 + _ ≤ _; exact Nat.le_of_eq rfl) (hb hby at_176) (fun _ hWm => ⟨rfl, Kq12, (by decide : 12 + 0 ≤ _), (by decide : 52 + 0 ≤ _)⟩)
    dsimp only [Pt.U, Pt.locs, Pt.cells, Pt.slots] at X13 l13 y13 z13 st13 hQ13
    subst l13 y13 z13
    obtain ⟨rfl, Nq13, Kq13⟩ := hQ13
    replace N := Fr.app N Nq13
    refine own_go (B := T13.setTop (mkF m 179 #[.val (.int p1), .val (.int p2), .val (.int p3), .val (.ref r1), .val (.ref r2), .val (.int (0 : Int32)), .val (.ref b3), .val (.int (1 : Int32)), .val (.ref b3), .val (.ref r8), .val (.int (1 : Int32)), .val (.int (1 : Int32)), .unset, .unset] [(.ref wE)])) (fun t k => st13.trans k) ?_
    -- pc 179: java/util/Optional.isPresent
    obtain ⟨cq14, kq14, q14a, q14b, q14c⟩ := isOf hZ Kq13 (E_E.ext O.2)
    obtain ⟨_, _, ⟨T14, L14, k14, n14⟩, -, X14, ⟨Lc14, hQ14, l14, y14, z14⟩, st14⟩ := X13.virtualBack hx (y := (⟨"java/util/Optional", "isPresent", "()Z"⟩ : MethodName)) (z := (⟨"java/util/Optional", "isPresent", "()Z"⟩ : MethodName)) hown (mvT hZ (hw _ (List.mem_of_getElem? (i := 58) rfl))) (mvT hZ (hw _ (List.mem_of_getElem? (i := 59) rfl))) (notFace_of_selects (args := #[]) (mvT hZ (hw _ (List.mem_of_getElem? (i := 61) rfl)))) (mvT hZ (hw _ (List.mem_of_getElem? (i := 61) rfl))) (mvT hZ (hw _ (List.mem_of_getElem? (i := 60) rfl))) (by decide) (backOf (W := 0) (rmIP0 l Z a0 hw [] wE T8.heap n0 O (F_E.ext O.2)) hZ (hw _ (List.mem_of_getElem? (i := 62) rfl)) (hw _ (List.mem_of_getElem? (i := 55) rfl)) (by decide) (by decide)) q14a q14c (g := (mkF m 179 #[.val (.int p1), .val (.int p2), .val (.int p3), .val (.ref r1), .val (.ref r2), .val (.int (0 : Int32)), .val (.ref b3), .val (.int (1 : Int32)), .val (.ref b3), .val (.ref r8), .val (.int (1 : Int32)), .val (.int (1 : Int32)), .unset, .unset] [(.ref wE)])) rfl (by rw [hml]; rfl) (Steps.refl _) (argsL := []) (rest := []) (lenOf pd_8 rfl) rfl (by show 2 * 0 + _ ≤ _; exact Nat.le_of_eq rfl) (hb hby at_179) (fun _ hWm => ⟨rfl, Kq13, (by decide : 12 + 0 ≤ _), (by decide : 52 + 0 ≤ _)⟩)
    dsimp only [Pt.U, Pt.locs, Pt.cells, Pt.slots] at X14 l14 y14 z14 st14 hQ14
    subst l14 y14 z14
    obtain ⟨rfl, Nq14, Kq14⟩ := hQ14
    replace N := Fr.app N Nq14
    refine own_go (B := T14.setTop (mkF m 182 #[.val (.int p1), .val (.int p2), .val (.int p3), .val (.ref r1), .val (.ref r2), .val (.int (0 : Int32)), .val (.ref b3), .val (.int (1 : Int32)), .val (.ref b3), .val (.ref r8), .val (.int (1 : Int32)), .val (.int (1 : Int32)), .unset, .unset] [(.int (0 : Int32))])) (fun t k => st14.trans k) ?_
    refine own_go (B := T14.setTop (mkF m 187 #[.val (.int p1), .val (.int p2), .val (.int p3), .val (.ref r1), .val (.ref r2), .val (.int (0 : Int32)), .val (.ref b3), .val (.int (1 : Int32)), .val (.ref b3), .val (.ref r8), .val (.int (1 : Int32)), .val (.int (1 : Int32)), .unset, .unset] [(.ref b3)])) (fun t k => ?_) ?_
    · show Steps p.tables e below (T14.setTop (mkF m 182 #[.val (.int p1), .val (.int p2), .val (.int p3), .val (.ref r1), .val (.ref r2), .val (.int (0 : Int32)), .val (.ref b3), .val (.int (1 : Int32)), .val (.ref b3), .val (.ref r8), .val (.int (1 : Int32)), .val (.int (1 : Int32)), .unset, .unset] [(.int (0 : Int32))])) _
      refine XS.ifNo X14.here hx rfl (hb hby at_182) rfl ((if0 _ _).trans (teq (by decide)).2) ?_
      show Steps p.tables e below (T14.setTop (mkF m 185 #[.val (.int p1), .val (.int p2), .val (.int p3), .val (.ref r1), .val (.ref r2), .val (.int (0 : Int32)), .val (.ref b3), .val (.int (1 : Int32)), .val (.ref b3), .val (.ref r8), .val (.int (1 : Int32)), .val (.int (1 : Int32)), .unset, .unset] [])) _
      refine XS.aload X14.here hx rfl (hb hby at_185) rfl rfl ?_
      show Steps p.tables e below (T14.setTop (mkF m 187 #[.val (.int p1), .val (.int p2), .val (.int p3), .val (.ref r1), .val (.ref r2), .val (.int (0 : Int32)), .val (.ref b3), .val (.int (1 : Int32)), .val (.ref b3), .val (.ref r8), .val (.int (1 : Int32)), .val (.int (1 : Int32)), .unset, .unset] [(.ref b3)])) _
      exact k
    -- pc 187: com/example/fixity/fixity/engine/AccountRequest.disabled
    obtain ⟨cq15, kq15, q15a, q15b, q15c⟩ := isOf hZ Kq14 A3
    obtain ⟨_, _, ⟨T15, L15, k15, n15⟩, -, X15, ⟨Lc15, hQ15, l15, y15, z15⟩, st15⟩ := X14.virtualBack hx (y := (⟨"com/example/fixity/fixity/engine/AccountRequest", "disabled", "()Ljava/util/Optional;"⟩ : MethodName)) (z := (⟨"com/example/fixity/fixity/engine/AccountRequest", "disabled", "()Ljava/util/Optional;"⟩ : MethodName)) hown (mvT hZ (hw _ (List.mem_of_getElem? (i := 98) rfl))) (mvT hZ (hw _ (List.mem_of_getElem? (i := 99) rfl))) (notFace_of_selects (args := #[]) (mvT hZ (hw _ (List.mem_of_getElem? (i := 101) rfl)))) (mvT hZ (hw _ (List.mem_of_getElem? (i := 101) rfl))) (mvT hZ (hw _ (List.mem_of_getElem? (i := 100) rfl))) (by decide) (backOf (W := 0) (rmG0disabled l Z a0 hw [] b3 wE T8.heap n0 O Gq7_2 S_E) hZ (hw _ (List.mem_of_getElem? (i := 102) rfl)) (hw _ (List.mem_of_getElem? (i := 39) rfl)) (by decide) (by decide)) q15a q15c (g := (mkF m 187 #[.val (.int p1), .val (.int p2), .val (.int p3), .val (.ref r1), .val (.ref r2), .val (.int (0 : Int32)), .val (.ref b3), .val (.int (1 : Int32)), .val (.ref b3), .val (.ref r8), .val (.int (1 : Int32)), .val (.int (1 : Int32)), .unset, .unset] [(.ref b3)])) rfl (by rw [hml]; rfl) (Steps.refl _) (argsL := []) (rest := []) (lenOf pd_7 rfl) rfl (by show 2 * 0 + _ ≤ _; exact Nat.le_of_eq rfl) (hb hby at_187) (fun _ hWm => ⟨rfl, Kq14, (by decide : 12 + 0 ≤ _), (by decide : 52 + 0 ≤ _)⟩)
    dsimp only [Pt.U, Pt.locs, Pt.cells, Pt.slots] at X15 l15 y15 z15 st15 hQ15
    subst l15 y15 z15
    obtain ⟨rfl, Nq15, Kq15⟩ := hQ15
    replace N := Fr.app N Nq15
    refine own_go (B := T15.setTop (mkF m 190 #[.val (.int p1), .val (.int p2), .val (.int p3), .val (.ref r1), .val (.ref r2), .val (.int (0 : Int32)), .val (.ref b3), .val (.int (1 : Int32)), .val (.ref b3), .val (.ref r8), .val (.int (1 : Int32)), .val (.int (1 : Int32)), .unset, .unset] [(.ref wE)])) (fun t k => st15.trans k) ?_
    -- pc 190: java/util/Optional.isPresent
    obtain ⟨cq16, kq16, q16a, q16b, q16c⟩ := isOf hZ Kq15 (E_E.ext O.2)
    obtain ⟨_, _, ⟨T16, L16, k16, n16⟩, -, X16, ⟨Lc16, hQ16, l16, y16, z16⟩, st16⟩ := X15.virtualBack hx (y := (⟨"java/util/Optional", "isPresent", "()Z"⟩ : MethodName)) (z := (⟨"java/util/Optional", "isPresent", "()Z"⟩ : MethodName)) hown (mvT hZ (hw _ (List.mem_of_getElem? (i := 58) rfl))) (mvT hZ (hw _ (List.mem_of_getElem? (i := 59) rfl))) (notFace_of_selects (args := #[]) (mvT hZ (hw _ (List.mem_of_getElem? (i := 61) rfl)))) (mvT hZ (hw _ (List.mem_of_getElem? (i := 61) rfl))) (mvT hZ (hw _ (List.mem_of_getElem? (i := 60) rfl))) (by decide) (backOf (W := 0) (rmIP0 l Z a0 hw [] wE T8.heap n0 O (F_E.ext O.2)) hZ (hw _ (List.mem_of_getElem? (i := 62) rfl)) (hw _ (List.mem_of_getElem? (i := 55) rfl)) (by decide) (by decide)) q16a q16c (g := (mkF m 190 #[.val (.int p1), .val (.int p2), .val (.int p3), .val (.ref r1), .val (.ref r2), .val (.int (0 : Int32)), .val (.ref b3), .val (.int (1 : Int32)), .val (.ref b3), .val (.ref r8), .val (.int (1 : Int32)), .val (.int (1 : Int32)), .unset, .unset] [(.ref wE)])) rfl (by rw [hml]; rfl) (Steps.refl _) (argsL := []) (rest := []) (lenOf pd_8 rfl) rfl (by show 2 * 0 + _ ≤ _; exact Nat.le_of_eq rfl) (hb hby at_190) (fun _ hWm => ⟨rfl, Kq15, (by decide : 12 + 0 ≤ _), (by decide : 52 + 0 ≤ _)⟩)
    dsimp only [Pt.U, Pt.locs, Pt.cells, Pt.slots] at X16 l16 y16 z16 st16 hQ16
    subst l16 y16 z16
    obtain ⟨rfl, Nq16, Kq16⟩ := hQ16
    replace N := Fr.app N Nq16
    refine own_go (B := T16.setTop (mkF m 193 #[.val (.int p1), .val (.int p2), .val (.int p3), .val (.ref r1), .val (.ref r2), .val (.int (0 : Int32)), .val (.ref b3), .val (.int (1 : Int32)), .val (.ref b3), .val (.ref r8), .val (.int (1 : Int32)), .val (.int (1 : Int32)), .unset, .unset] [(.int (0 : Int32))])) (fun t k => st16.trans k) ?_
    refine own_go (B := T16.setTop (mkF m 198 #[.val (.int p1), .val (.int p2), .val (.int p3), .val (.ref r1), .val (.ref r2), .val (.int (0 : Int32)), .val (.ref b3), .val (.int (1 : Int32)), .val (.ref b3), .val (.ref r8), .val (.int (1 : Int32)), .val (.int (1 : Int32)), .unset, .unset] [(.ref b3)])) (fun t k => ?_) ?_
    · show Steps p.tables e below (T16.setTop (mkF m 193 #[.val (.int p1), .val (.int p2), .val (.int p3), .val (.ref r1), .val (.ref r2), .val (.int (0 : Int32)), .val (.ref b3), .val (.int (1 : Int32)), .val (.ref b3), .val (.ref r8), .val (.int (1 : Int32)), .val (.int (1 : Int32)), .unset, .unset] [(.int (0 : Int32))])) _
      refine XS.ifNo X16.here hx rfl (hb hby at_193) rfl ((if0 _ _).trans (teq (by decide)).2) ?_
      show Steps p.tables e below (T16.setTop (mkF m 196 #[.val (.int p1), .val (.int p2), .val (.int p3), .val (.ref r1), .val (.ref r2), .val (.int (0 : Int32)), .val (.ref b3), .val (.int (1 : Int32)), .val (.ref b3), .val (.ref r8), .val (.int (1 : Int32)), .val (.int (1 : Int32)), .unset, .unset] [])) _
      refine XS.aload X16.here hx rfl (hb hby at_196) rfl rfl ?_
      show Steps p.tables e below (T16.setTop (mkF m 198 #[.val (.int p1), .val (.int p2), .val (.int p3), .val (.ref r1), .val (.ref r2), .val (.int (0 : Int32)), .val (.ref b3), .val (.int (1 : Int32)), .val (.ref b3), .val (.ref r8), .val (.int (1 : Int32)), .val (.int (1 : Int32)), .unset, .unset] [(.ref b3)])) _
      exact k
    -- pc 198: com/example/fixity/fixity/engine/AccountRequest.workflowRoles
    obtain ⟨cq17, kq17, q17a, q17b, q17c⟩ := isOf hZ Kq16 A3
    obtain ⟨_, _, ⟨T17, L17, k17, n17⟩, -, X17, ⟨Lc17, hQ17, l17, y17, z17⟩, st17⟩ := X16.virtualBack hx (y := (⟨"com/example/fixity/fixity/engine/AccountRequest", "workflowRoles", "()Ljava/util/Optional;"⟩ : MethodName)) (z := (⟨"com/example/fixity/fixity/engine/AccountRequest", "workflowRoles", "()Ljava/util/Optional;"⟩ : MethodName)) hown (mvT hZ (hw _ (List.mem_of_getElem? (i := 105) rfl))) (mvT hZ (hw _ (List.mem_of_getElem? (i := 106) rfl))) (notFace_of_selects (args := #[]) (mvT hZ (hw _ (List.mem_of_getElem? (i := 108) rfl)))) (mvT hZ (hw _ (List.mem_of_getElem? (i := 108) rfl))) (mvT hZ (hw _ (List.mem_of_getElem? (i := 107) rfl))) (by decide) (backOf (W := 0) (rmG0workflowRoles l Z a0 hw [] b3 wE T8.heap n0 O Gq7_3 S_E) hZ (hw _ (List.mem_of_getElem? (i := 109) rfl)) (hw _ (List.mem_of_getElem? (i := 39) rfl)) (by decide) (by decide)) q17a q17c (g := (mkF m 198 #[.val (.int p1), .val (.int p2), .val (.int p3), .val (.ref r1), .val (.ref r2), .val (.int (0 : Int32)), .val (.ref b3), .val (.int (1 : Int32)), .val (.ref b3), .val (.ref r8), .val (.int (1 : Int32)), .val (.int (1 : Int32)), .unset, .unset] [(.ref b3)])) rfl (by rw [hml]; rfl) (Steps.refl _) (argsL := []) (rest := []) (lenOf pd_7 rfl) rfl (by show 2 * 0 + _ ≤ _; exact Nat.le_of_eq rfl) (hb hby at_198) (fun _ hWm => ⟨rfl, Kq16, (by decide : 12 + 0 ≤ _), (by decide : 52 + 0 ≤ _)⟩)
    dsimp only [Pt.U, Pt.locs, Pt.cells, Pt.slots] at X17 l17 y17 z17 st17 hQ17
    subst l17 y17 z17
    obtain ⟨rfl, Nq17, Kq17⟩ := hQ17
    replace N := Fr.app N Nq17
    refine own_go (B := T17.setTop (mkF m 201 #[.val (.int p1), .val (.int p2), .val (.int p3), .val (.ref r1), .val (.ref r2), .val (.int (0 : Int32)), .val (.ref b3), .val (.int (1 : Int32)), .val (.ref b3), .val (.ref r8), .val (.int (1 : Int32)), .val (.int (1 : Int32)), .unset, .unset] [(.ref wE)])) (fun t k => st17.trans k) ?_
    -- pc 201: java/util/Optional.isPresent
    obtain ⟨cq18, kq18, q18a, q18b, q18c⟩ := isOf hZ Kq17 (E_E.ext O.2)
    obtain ⟨_, _, ⟨T18, L18, k18, n18⟩, -, X18, ⟨Lc18, hQ18, l18, y18, z18⟩, st18⟩ := X17.virtualBack hx (y := (⟨"java/util/Optional", "isPresent", "()Z"⟩ : MethodName)) (z := (⟨"java/util/Optional", "isPresent", "()Z"⟩ : MethodName)) hown (mvT hZ (hw _ (List.mem_of_getElem? (i := 58) rfl))) (mvT hZ (hw _ (List.mem_of_getElem? (i := 59) rfl))) (notFace_of_selects (args := #[]) (mvT hZ (hw _ (List.mem_of_getElem? (i := 61) rfl)))) (mvT hZ (hw _ (List.mem_of_getElem? (i := 61) rfl))) (mvT hZ (hw _ (List.mem_of_getElem? (i := 60) rfl))) (by decide) (backOf (W := 0) (rmIP0 l Z a0 hw [] wE T8.heap n0 O (F_E.ext O.2)) hZ (hw _ (List.mem_of_getElem? (i := 62) rfl)) (hw _ (List.mem_of_getElem? (i := 55) rfl)) (by decide) (by decide)) q18a q18c (g := (mkF m 201 #[.val (.int p1), .val (.int p2), .val (.int p3), .val (.ref r1), .val (.ref r2), .val (.int (0 : Int32)), .val (.ref b3), .val (.int (1 : Int32)), .val (.ref b3), .val (.ref r8), .val (.int (1 : Int32)), .val (.int (1 : Int32)), .unset, .unset] [(.ref wE)])) rfl (by rw [hml]; rfl) (Steps.refl _) (argsL := []) (rest := []) (lenOf pd_8 rfl) rfl (by show 2 * 0 + _ ≤ _; exact Nat.le_of_eq rfl) (hb hby at_201) (fun _ hWm => ⟨rfl, Kq17, (by decide : 12 + 0 ≤ _), (by decide : 52 + 0 ≤ _)⟩)
    dsimp only [Pt.U, Pt.locs, Pt.cells, Pt.slots] at X18 l18 y18 z18 st18 hQ18
    subst l18 y18 z18
    obtain ⟨rfl, Nq18, Kq18⟩ := hQ18
    replace N := Fr.app N Nq18
    refine own_go (B := T18.setTop (mkF m 204 #[.val (.int p1), .val (.int p2), .val (.int p3), .val (.ref r1), .val (.ref r2), .val (.int (0 : Int32)), .val (.ref b3), .val (.int (1 : Int32)), .val (.ref b3), .val (.ref r8), .val (.int (1 : Int32)), .val (.int (1 : Int32)), .unset, .unset] [(.int (0 : Int32))])) (fun t k => st18.trans k) ?_
    refine own_go (B := T18.setTop (mkF m 239 #[.val (.int p1), .val (.int p2), .val (.int p3), .val (.ref r1), .val (.ref r2), .val (.int (0 : Int32)), .val (.ref b3), .val (.int (1 : Int32)), .val (.ref b3), .val (.ref r8), .val (.int (1 : Int32)), .val (.int (1 : Int32)), .val (.int (1 : Int32)), .unset] [(.int (1 : Int32))])) (fun t k => ?_) ?_
    · show Steps p.tables e below (T18.setTop (mkF m 204 #[.val (.int p1), .val (.int p2), .val (.int p3), .val (.ref r1), .val (.ref r2), .val (.int (0 : Int32)), .val (.ref b3), .val (.int (1 : Int32)), .val (.ref b3), .val (.ref r8), .val (.int (1 : Int32)), .val (.int (1 : Int32)), .unset, .unset] [(.int (0 : Int32))])) _
      refine XS.ifNo X18.here hx rfl (hb hby at_204) rfl ((if0 _ _).trans (teq (by decide)).2) ?_
      show Steps p.tables e below (T18.setTop (mkF m 207 #[.val (.int p1), .val (.int p2), .val (.int p3), .val (.ref r1), .val (.ref r2), .val (.int (0 : Int32)), .val (.ref b3), .val (.int (1 : Int32)), .val (.ref b3), .val (.ref r8), .val (.int (1 : Int32)), .val (.int (1 : Int32)), .unset, .unset] [])) _
      refine XS.iconst X18.here hx rfl (hb hby at_207) ?_
      show Steps p.tables e below (T18.setTop (mkF m 208 #[.val (.int p1), .val (.int p2), .val (.int p3), .val (.ref r1), .val (.ref r2), .val (.int (0 : Int32)), .val (.ref b3), .val (.int (1 : Int32)), .val (.ref b3), .val (.ref r8), .val (.int (1 : Int32)), .val (.int (1 : Int32)), .unset, .unset] [(.int (1 : Int32))])) _
      refine XS.goto X18.here hx rfl (pc0 := 208) (pc' := 212) rfl (hb hby at_208) (by decide) (by decide) ?_
      show Steps p.tables e below (T18.setTop (mkF m 212 #[.val (.int p1), .val (.int p2), .val (.int p3), .val (.ref r1), .val (.ref r2), .val (.int (0 : Int32)), .val (.ref b3), .val (.int (1 : Int32)), .val (.ref b3), .val (.ref r8), .val (.int (1 : Int32)), .val (.int (1 : Int32)), .unset, .unset] [(.int (1 : Int32))])) _
      refine XS.istore X18.here hx rfl (hb hby at_212) rfl (l' := #[.val (.int p1), .val (.int p2), .val (.int p3), .val (.ref r1), .val (.ref r2), .val (.int (0 : Int32)), .val (.ref b3), .val (.int (1 : Int32)), .val (.ref b3), .val (.ref r8), .val (.int (1 : Int32)), .val (.int (1 : Int32)), .val (.int (1 : Int32)), .unset]) rfl ?_
      show Steps p.tables e below (T18.setTop (mkF m 214 #[.val (.int p1), .val (.int p2), .val (.int p3), .val (.ref r1), .val (.ref r2), .val (.int (0 : Int32)), .val (.ref b3), .val (.int (1 : Int32)), .val (.ref b3), .val (.ref r8), .val (.int (1 : Int32)), .val (.int (1 : Int32)), .val (.int (1 : Int32)), .unset] [])) _
      refine XS.iload X18.here hx rfl (hb hby at_214) rfl ?_
      show Steps p.tables e below (T18.setTop (mkF m 216 #[.val (.int p1), .val (.int p2), .val (.int p3), .val (.ref r1), .val (.ref r2), .val (.int (0 : Int32)), .val (.ref b3), .val (.int (1 : Int32)), .val (.ref b3), .val (.ref r8), .val (.int (1 : Int32)), .val (.int (1 : Int32)), .val (.int (1 : Int32)), .unset] [(.int (1 : Int32))])) _
      refine XS.ifNo X18.here hx rfl (hb hby at_216) rfl ((if0 _ _).trans (feq (by decide)).1) ?_
      show Steps p.tables e below (T18.setTop (mkF m 219 #[.val (.int p1), .val (.int p2), .val (.int p3), .val (.ref r1), .val (.ref r2), .val (.int (0 : Int32)), .val (.ref b3), .val (.int (1 : Int32)), .val (.ref b3), .val (.ref r8), .val (.int (1 : Int32)), .val (.int (1 : Int32)), .val (.int (1 : Int32)), .unset] [])) _
      refine XS.iload X18.here hx rfl (hb hby at_219) rfl ?_
      show Steps p.tables e below (T18.setTop (mkF m 221 #[.val (.int p1), .val (.int p2), .val (.int p3), .val (.ref r1), .val (.ref r2), .val (.int (0 : Int32)), .val (.ref b3), .val (.int (1 : Int32)), .val (.ref b3), .val (.ref r8), .val (.int (1 : Int32)), .val (.int (1 : Int32)), .val (.int (1 : Int32)), .unset] [(.int (1 : Int32))])) _
      refine XS.ifNo X18.here hx rfl (hb hby at_221) rfl ((if0 _ _).trans (feq (by decide)).1) ?_
      show Steps p.tables e below (T18.setTop (mkF m 224 #[.val (.int p1), .val (.int p2), .val (.int p3), .val (.ref r1), .val (.ref r2), .val (.int (0 : Int32)), .val (.ref b3), .val (.int (1 : Int32)), .val (.ref b3), .val (.ref r8), .val (.int (1 : Int32)), .val (.int (1 : Int32)), .val (.int (1 : Int32)), .unset] [])) _
      refine XS.iload X18.here hx rfl (hb hby at_224) rfl ?_
      show Steps p.tables e below (T18.setTop (mkF m 226 #[.val (.int p1), .val (.int p2), .val (.int p3), .val (.ref r1), .val (.ref r2), .val (.int (0 : Int32)), .val (.ref b3), .val (.int (1 : Int32)), .val (.ref b3), .val (.ref r8), .val (.int (1 : Int32)), .val (.int (1 : Int32)), .val (.int (1 : Int32)), .unset] [(.int (1 : Int32))])) _
      refine XS.ifNo X18.here hx rfl (hb hby at_226) rfl ((if0 _ _).trans (feq (by decide)).1) ?_
      show Steps p.tables e below (T18.setTop (mkF m 229 #[.val (.int p1), .val (.int p2), .val (.int p3), .val (.ref r1), .val (.ref r2), .val (.int (0 : Int32)), .val (.ref b3), .val (.int (1 : Int32)), .val (.ref b3), .val (.ref r8), .val (.int (1 : Int32)), .val (.int (1 : Int32)), .val (.int (1 : Int32)), .unset] [])) _
      refine XS.iload X18.here hx rfl (hb hby at_229) rfl ?_
      show Steps p.tables e below (T18.setTop (mkF m 231 #[.val (.int p1), .val (.int p2), .val (.int p3), .val (.ref r1), .val (.ref r2), .val (.int (0 : Int32)), .val (.ref b3), .val (.int (1 : Int32)), .val (.ref b3), .val (.ref r8), .val (.int (1 : Int32)), .val (.int (1 : Int32)), .val (.int (1 : Int32)), .unset] [(.int (1 : Int32))])) _
      refine XS.ifNo X18.here hx rfl (hb hby at_231) rfl ((if0 _ _).trans (feq (by decide)).1) ?_
      show Steps p.tables e below (T18.setTop (mkF m 234 #[.val (.int p1), .val (.int p2), .val (.int p3), .val (.ref r1), .val (.ref r2), .val (.int (0 : Int32)), .val (.ref b3), .val (.int (1 : Int32)), .val (.ref b3), .val (.ref r8), .val (.int (1 : Int32)), .val (.int (1 : Int32)), .val (.int (1 : Int32)), .unset] [])) _
      refine XS.iconst X18.here hx rfl (hb hby at_234) ?_
      show Steps p.tables e below (T18.setTop (mkF m 235 #[.val (.int p1), .val (.int p2), .val (.int p3), .val (.ref r1), .val (.ref r2), .val (.int (0 : Int32)), .val (.ref b3), .val (.int (1 : Int32)), .val (.ref b3), .val (.ref r8), .val (.int (1 : Int32)), .val (.int (1 : Int32)), .val (.int (1 : Int32)), .unset] [(.int (1 : Int32))])) _
      refine XS.goto X18.here hx rfl (pc0 := 235) (pc' := 239) rfl (hb hby at_235) (by decide) (by decide) ?_
      show Steps p.tables e below (T18.setTop (mkF m 239 #[.val (.int p1), .val (.int p2), .val (.int p3), .val (.ref r1), .val (.ref r2), .val (.int (0 : Int32)), .val (.ref b3), .val (.int (1 : Int32)), .val (.ref b3), .val (.ref r8), .val (.int (1 : Int32)), .val (.int (1 : Int32)), .val (.int (1 : Int32)), .unset] [(.int (1 : Int32))])) _
      exact k
    obtain ⟨fs, hr, hrun, hended, hEnd⟩ := X18.leaveW hS (by rw [Kq18]; exact hk) (v := some (.int (1 : Int32))) (fun h => by rw [Bd.returns] at h; cases h)
    refine ⟨_, _, retN X18 hx (t := .boolean) Bd.returns (by simp) (hb hby at_239) hr, hfin _ _ ⟨hrun, hended, _, _, rfl, ?_, hEnd.1, hEnd.2.1, hEnd.2.2.1, hEnd.2.2.2.mono (by decide) (by decide)⟩⟩
    show Q0 Z p1 p2 p3 wE zc h0 n0 _ T18.heap _
    rw [Kq18]
    exact ⟨rfl, N⟩
  · refine own_go (B := T2.setTop (mkF m 33 #[.val (.int p1), .val (.int p2), .val (.int p3), .val (.ref r1), .val (.ref r2), .val (.int (1 : Int32)), .unset, .unset, .unset, .unset, .unset, .unset, .unset, .unset] [])) (fun t k => ?_) ?_
    · show Steps p.tables e below (T2.setTop (mkF m 19 #[.val (.int p1), .val (.int p2), .val (.int p3), .val (.ref r1), .val (.ref r2), .unset, .unset, .unset, .unset, .unset, .unset, .unset, .unset, .unset] [])) _
      refine XS.iloadN X2.here hx rfl (hb hby at_19) rfl ?_
      show Steps p.tables e below (T2.setTop (mkF m 20 #[.val (.int p1), .val (.int p2), .val (.int p3), .val (.ref r1), .val (.ref r2), .unset, .unset, .unset, .unset, .unset, .unset, .unset, .unset, .unset] [(.int p3)])) _
      refine XS.bipush X2.here hx rfl (hb hby at_20) ?_
      show Steps p.tables e below (T2.setTop (mkF m 22 #[.val (.int p1), .val (.int p2), .val (.int p3), .val (.ref r1), .val (.ref r2), .unset, .unset, .unset, .unset, .unset, .unset, .unset, .unset, .unset] [(.int (16 : Int32)), (.int p3)])) _
      refine XS.iand X2.here hx rfl (hb hby at_22) rfl ?_
      show Steps p.tables e below (T2.setTop (mkF m 23 #[.val (.int p1), .val (.int p2), .val (.int p3), .val (.ref r1), .val (.ref r2), .unset, .unset, .unset, .unset, .unset, .unset, .unset, .unset, .unset] [(.int (p3 &&& (16 : Int32)))])) _
      refine XS.ifNo X2.here hx rfl (hb hby at_23) rfl ((if0 _ _).trans (feq kt).1) ?_
      show Steps p.tables e below (T2.setTop (mkF m 26 #[.val (.int p1), .val (.int p2), .val (.int p3), .val (.ref r1), .val (.ref r2), .unset, .unset, .unset, .unset, .unset, .unset, .unset, .unset, .unset] [])) _
      refine XS.iconst X2.here hx rfl (hb hby at_26) ?_
      show Steps p.tables e below (T2.setTop (mkF m 27 #[.val (.int p1), .val (.int p2), .val (.int p3), .val (.ref r1), .val (.ref r2), .unset, .unset, .unset, .unset, .unset, .unset, .unset, .unset, .unset] [(.int (1 : Int32))])) _
      refine XS.goto X2.here hx rfl (pc0 := 27) (pc' := 31) rfl (hb hby at_27) (by decide) (by decide) ?_
      show Steps p.tables e below (T2.setTop (mkF m 31 #[.val (.int p1), .val (.int p2), .val (.int p3), .val (.ref r1), .val (.ref r2), .unset, .unset, .unset, .unset, .unset, .unset, .unset, .unset, .unset] [(.int (1 : Int32))])) _
      refine XS.istore X2.here hx rfl (hb hby at_31) rfl (l' := #[.val (.int p1), .val (.int p2), .val (.int p3), .val (.ref r1), .val (.ref r2), .val (.int (1 : Int32)), .unset, .unset, .unset, .unset, .unset, .unset, .unset, .unset]) rfl ?_
      show Steps p.tables e below (T2.setTop (mkF m 33 #[.val (.int p1), .val (.int p2), .val (.int p3), .val (.ref r1), .val (.ref r2), .val (.int (1 : Int32)), .unset, .unset, .unset, .unset, .unset, .unset, .unset, .unset] [])) _
      exact k
    obtain ⟨T20, h20, X20, e20, E20, A20, D20, -, st20⟩ := newO X2 hx hZ hown (hw _ (List.mem_of_getElem? (i := 37) rfl)) (hw _ (List.mem_of_getElem? (i := 38) rfl)) (hw _ (List.mem_of_getElem? (i := 39) rfl)) rfl (g := (mkF m 33 #[.val (.int p1), .val (.int p2), .val (.int p3), .val (.ref r1), .val (.ref r2), .val (.int (1 : Int32)), .unset, .unset, .unset, .unset, .unset, .unset, .unset, .unset] [])) rfl (hb hby at_33) (by decide) (by decide)
    obtain ⟨b20, g20⟩ : ∃ z, z = T2.heap.size := ⟨_, rfl⟩
    rw [← g20] at A20 D20 st20
    have lt_r1_b20 : r1 < b20 := Nat.lt_of_lt_of_le Gq1_0.lt (Nat.le_of_eq g20.symm)
    have lt_r2_b20 : r2 < b20 := Nat.lt_of_lt_of_le Gq2_0.lt (Nat.le_of_eq g20.symm)
    have g_b20 : n0 ≤ b20 := Nat.le_trans (own_oldsz O) (Nat.le_of_eq g20.symm)
    have m_b20_20 : T2.heap.size ≤ b20 := Nat.le_trans KM.1 (Nat.le_of_eq g20.symm)
    replace Gq1_0 := Gq1_0.ext E20
    replace Gq2_0 := Gq2_0.ext E20
    replace O := O.ext E20
    replace hk := Nat.le_trans hk E20.1
    replace KM := KM.ext E20
    have F20_unreadable : Fld Z h20 b20 "com/example/fixity/fixity/engine/AccountRequest" "unreadable" "Ljava/lang/String;" .null := D20 (Or.inr (hw _ (List.mem_of_getElem? (i := 45) rfl))) (ty := (.object "java/lang/String")) (by decide)
    have F20_role : Fld Z h20 b20 "com/example/fixity/fixity/engine/AccountRequest" "role" "Ljava/lang/String;" .null := D20 (Or.inl (hw _ (List.mem_of_getElem? (i := 52) rfl))) (ty := (.object "java/lang/String")) (by decide)
    have F20_disabled : Fld Z h20 b20 "com/example/fixity/fixity/engine/AccountRequest" "disabled" "Ljava/lang/Boolean;" .null := D20 (Or.inl (hw _ (List.mem_of_getElem? (i := 104) rfl))) (ty := (.object "java/lang/Boolean")) (by decide)
    have F20_workflowRoles : Fld Z h20 b20 "com/example/fixity/fixity/engine/AccountRequest" "workflowRoles" "Ljava/util/List;" .null := D20 (Or.inl (hw _ (List.mem_of_getElem? (i := 111) rfl))) (ty := (.object "java/util/List")) (by decide)
    refine own_go (B := T20.setTop (mkF m 36 #[.val (.int p1), .val (.int p2), .val (.int p3), .val (.ref r1), .val (.ref r2), .val (.int (1 : Int32)), .unset, .unset, .unset, .unset, .unset, .unset, .unset, .unset] [(.ref b20)])) st20 ?_
    refine own_go (B := T20.setTop (mkF m 37 #[.val (.int p1), .val (.int p2), .val (.int p3), .val (.ref r1), .val (.ref r2), .val (.int (1 : Int32)), .unset, .unset, .unset, .unset, .unset, .unset, .unset, .unset] [(.ref b20), (.ref b20)])) (fun t k => ?_) ?_
    · show Steps p.tables e below (T20.setTop (mkF m 36 #[.val (.int p1), .val (.int p2), .val (.int p3), .val (.ref r1), .val (.ref r2), .val (.int (1 : Int32)), .unset, .unset, .unset, .unset, .unset, .unset, .unset, .unset] [(.ref b20)])) _
      refine XS.dup X20.here hx rfl (hb hby at_36) rfl rfl ?_
      show Steps p.tables e below (T20.setTop (mkF m 37 #[.val (.int p1), .val (.int p2), .val (.int p3), .val (.ref r1), .val (.ref r2), .val (.int (1 : Int32)), .unset, .unset, .unset, .unset, .unset, .unset, .unset, .unset] [(.ref b20), (.ref b20)])) _
      exact k
    -- pc 37: com/example/fixity/fixity/engine/AccountRequest.<init>
    obtain ⟨_, _, ⟨T21, L21, k21, n21⟩, -, X21, ⟨Lc21, hQ21, l21, y21, z21⟩, st21⟩ := X20.specialBack hx (y := (⟨"com/example/fixity/fixity/engine/AccountRequest", "<init>", "()V"⟩ : MethodName)) rfl hown (mvT hZ (hw _ (List.mem_of_getElem? (i := 40) rfl))) (mvT hZ (hw _ (List.mem_of_getElem? (i := 41) rfl))) (mvT hZ (hw _ (List.mem_of_getElem? (i := 42) rfl))) (by decide) (backOf (W := 1) (rmInit l Z a0 hw [] b20 h20 n0 O A20 F20_unreadable F20_role F20_disabled F20_workflowRoles g_b20) hZ (hw _ (List.mem_of_getElem? (i := 42) rfl)) (hw _ (List.mem_of_getElem? (i := 39) rfl)) (by decide) (by decide)) (g := (mkF m 37 #[.val (.int p1), .val (.int p2), .val (.int p3), .val (.ref r1), .val (.ref r2), .val (.int (1 : Int32)), .unset, .unset, .unset, .unset, .unset, .unset, .unset, .unset] [(.ref b20), (.ref b20)])) rfl (by rw [hml]; rfl) (Steps.refl _) (a := b20) (argsL := []) (rest := [(.ref b20)]) (lenOf pd_6 rfl) rfl (by show 2 * 0 + _ ≤ _; exact Nat.le_of_eq rfl) (hb hby at_37) (fun _ hWm => ⟨rfl, e20, (by decide : 9 + 0 ≤ _), (by decide : 27 + 0 ≤ _)⟩)
    dsimp only [Pt.U, Pt.locs, Pt.cells, Pt.slots] at X21 l21 y21 z21 st21 hQ21
    subst l21 y21 z21
    obtain ⟨rfl, Nq21, Kq21, Gq21_0, Gq21_1, Gq21_2, Gq21_3⟩ := hQ21
    replace N := Fr.app N Nq21
    replace Gq1_0 := Gq1_0.keep Kq21
    replace Gq2_0 := Gq2_0.keep Kq21
    replace A20 := A20.keep Kq21
    clear F20_unreadable
    clear F20_role
    clear F20_disabled
    clear F20_workflowRoles
    replace O := O.keep Kq21 (allS g_b20 all0)
    replace hk := Nat.le_trans hk Kq21.1
    replace KM := KM.trans Kq21 (allS (Or.inr m_b20_20) all0)
    refine own_go (B := T21.setTop (mkF m 40 #[.val (.int p1), .val (.int p2), .val (.int p3), .val (.ref r1), .val (.ref r2), .val (.int (1 : Int32)), .unset, .unset, .unset, .unset, .unset, .unset, .unset, .unset] [(.ref b20)])) (fun t k => st21.trans k) ?_
    refine own_go (B := T21.setTop (mkF m 44 #[.val (.int p1), .val (.int p2), .val (.int p3), .val (.ref r1), .val (.ref r2), .val (.int (1 : Int32)), .val (.ref b20), .unset, .unset, .unset, .unset, .unset, .unset, .unset] [(.ref b20)])) (fun t k => ?_) ?_
    · show Steps p.tables e below (T21.setTop (mkF m 40 #[.val (.int p1), .val (.int p2), .val (.int p3), .val (.ref r1), .val (.ref r2), .val (.int (1 : Int32)), .unset, .unset, .unset, .unset, .unset, .unset, .unset, .unset] [(.ref b20)])) _
      refine XS.astore X21.here hx rfl (hb hby at_40) rfl rfl (l' := #[.val (.int p1), .val (.int p2), .val (.int p3), .val (.ref r1), .val (.ref r2), .val (.int (1 : Int32)), .val (.ref b20), .unset, .unset, .unset, .unset, .unset, .unset, .unset]) rfl ?_
      show Steps p.tables e below (T21.setTop (mkF m 42 #[.val (.int p1), .val (.int p2), .val (.int p3), .val (.ref r1), .val (.ref r2), .val (.int (1 : Int32)), .val (.ref b20), .unset, .unset, .unset, .unset, .unset, .unset, .unset] [])) _
      refine XS.aload X21.here hx rfl (hb hby at_42) rfl rfl ?_
      show Steps p.tables e below (T21.setTop (mkF m 44 #[.val (.int p1), .val (.int p2), .val (.int p3), .val (.ref r1), .val (.ref r2), .val (.int (1 : Int32)), .val (.ref b20), .unset, .unset, .unset, .unset, .unset, .unset, .unset] [(.ref b20)])) _
      exact k
    -- pc 44: com/example/fixity/fixity/engine/AccountRequest.role
    obtain ⟨cq22, kq22, q22a, q22b, q22c⟩ := isOf hZ rfl A20
    obtain ⟨_, _, ⟨T22, L22, k22, n22⟩, -, X22, ⟨Lc22, hQ22, l22, y22, z22⟩, st22⟩ := X21.virtualBack hx (y := (⟨"com/example/fixity/fixity/engine/AccountRequest", "role", "()Ljava/util/Optional;"⟩ : MethodName)) (z := (⟨"com/example/fixity/fixity/engine/AccountRequest", "role", "()Ljava/util/Optional;"⟩ : MethodName)) hown (mvT hZ (hw _ (List.mem_of_getElem? (i := 46) rfl))) (mvT hZ (hw _ (List.mem_of_getElem? (i := 47) rfl))) (notFace_of_selects (args := #[]) (mvT hZ (hw _ (List.mem_of_getElem? (i := 49) rfl)))) (mvT hZ (hw _ (List.mem_of_getElem? (i := 49) rfl))) (mvT hZ (hw _ (List.mem_of_getElem? (i := 48) rfl))) (by decide) (backOf (W := 0) (rmG0role l Z a0 hw [] b20 wE T21.heap n0 O Gq21_1 S_E) hZ (hw _ (List.mem_of_getElem? (i := 50) rfl)) (hw _ (List.mem_of_getElem? (i := 39) rfl)) (by decide) (by decide)) q22a q22c (g := (mkF m 44 #[.val (.int p1), .val (.int p2), .val (.int p3), .val (.ref r1), .val (.ref r2), .val (.int (1 : Int32)), .val (.ref b20), .unset, .unset, .unset, .unset, .unset, .unset, .unset] [(.ref b20)])) rfl (by rw [hml]; rfl) (Steps.refl _) (argsL := []) (rest := []) (lenOf pd_7 rfl) rfl (by show 2 * 0 + _ ≤ _; exact Nat.le_of_eq rfl) (hb hby at_44) (fun _ hWm => ⟨rfl, rfl, (by decide : 9 + 0 ≤ _), (by decide : 27 + 0 ≤ _)⟩)
    dsimp only [Pt.U, Pt.locs, Pt.cells, Pt.slots] at X22 l22 y22 z22 st22 hQ22
    subst l22 y22 z22
    obtain ⟨rfl, Nq22, Kq22⟩ := hQ22
    replace N := Fr.app N Nq22
    refine own_go (B := T22.setTop (mkF m 47 #[.val (.int p1), .val (.int p2), .val (.int p3), .val (.ref r1), .val (.ref r2), .val (.int (1 : Int32)), .val (.ref b20), .unset, .unset, .unset, .unset, .unset, .unset, .unset] [(.ref wE)])) (fun t k => st22.trans k) ?_
    -- pc 47: java/util/Optional.isPresent
    obtain ⟨cq23, kq23, q23a, q23b, q23c⟩ := isOf hZ Kq22 (E_E.ext O.2)
    obtain ⟨_, _, ⟨T23, L23, k23, n23⟩, -, X23, ⟨Lc23, hQ23, l23, y23, z23⟩, st23⟩ := X22.virtualBack hx (y := (⟨"java/util/Optional", "isPresent", "()Z"⟩ : MethodName)) (z := (⟨"java/util/Optional", "isPresent", "()Z"⟩ : MethodName)) hown (mvT hZ (hw _ (List.mem_of_getElem? (i := 58) rfl))) (mvT hZ (hw _ (List.mem_of_getElem? (i := 59) rfl))) (notFace_of_selects (args := #[]) (mvT hZ (hw _ (List.mem_of_getElem? (i := 61) rfl)))) (mvT hZ (hw _ (List.mem_of_getElem? (i := 61) rfl))) (mvT hZ (hw _ (List.mem_of_getElem? (i := 60) rfl))) (by decide) (backOf (W := 0) (rmIP0 l Z a0 hw [] wE T21.heap n0 O (F_E.ext O.2)) hZ (hw _ (List.mem_of_getElem? (i := 62) rfl)) (hw _ (List.mem_of_getElem? (i := 55) rfl)) (by decide) (by decide)) q23a q23c (g := (mkF m 47 #[.val (.int p1), .val (.int p2), .val (.int p3), .val (.ref r1), .val (.ref r2), .val (.int (1 : Int32)), .val (.ref b20), .unset, .unset, .unset, .unset, .unset, .unset, .unset] [(.ref wE)])) rfl (by rw [hml]; rfl) (Steps.refl _) (argsL := []) (rest := []) (lenOf pd_8 rfl) rfl (by show 2 * 0 + _ ≤ _; exact Nat.le_of_eq rfl) (hb hby at_47) (fun _ hWm => ⟨rfl, Kq22, (by decide : 9 + 0 ≤ _), (by decide : 27 + 0 ≤ _)⟩)
    dsimp only [Pt.U, Pt.locs, Pt.cells, Pt.slots] at X23 l23 y23 z23 st23 hQ23
    subst l23 y23 z23
    obtain ⟨rfl, Nq23, Kq23⟩ := hQ23
    replace N := Fr.app N Nq23
    refine own_go (B := T23.setTop (mkF m 50 #[.val (.int p1), .val (.int p2), .val (.int p3), .val (.ref r1), .val (.ref r2), .val (.int (1 : Int32)), .val (.ref b20), .unset, .unset, .unset, .unset, .unset, .unset, .unset] [(.int (0 : Int32))])) (fun t k => st23.trans k) ?_
    refine own_go (B := T23.setTop (mkF m 63 #[.val (.int p1), .val (.int p2), .val (.int p3), .val (.ref r1), .val (.ref r2), .val (.int (1 : Int32)), .val (.ref b20), .val (.int (1 : Int32)), .unset, .unset, .unset, .unset, .unset, .unset] [(.ref r1), (.ref b20)])) (fun t k => ?_) ?_
    · show Steps p.tables e below (T23.setTop (mkF m 50 #[.val (.int p1), .val (.int p2), .val (.int p3), .val (.ref r1), .val (.ref r2), .val (.int (1 : Int32)), .val (.ref b20), .unset, .unset, .unset, .unset, .unset, .unset, .unset] [(.int (0 : Int32))])) _
      refine XS.ifNo X23.here hx rfl (hb hby at_50) rfl ((if0 _ _).trans (teq (by decide)).2) ?_
      show Steps p.tables e below (T23.setTop (mkF m 53 #[.val (.int p1), .val (.int p2), .val (.int p3), .val (.ref r1), .val (.ref r2), .val (.int (1 : Int32)), .val (.ref b20), .unset, .unset, .unset, .unset, .unset, .unset, .unset] [])) _
      refine XS.iconst X23.here hx rfl (hb hby at_53) ?_
      show Steps p.tables e below (T23.setTop (mkF m 54 #[.val (.int p1), .val (.int p2), .val (.int p3), .val (.ref r1), .val (.ref r2), .val (.int (1 : Int32)), .val (.ref b20), .unset, .unset, .unset, .unset, .unset, .unset, .unset] [(.int (1 : Int32))])) _
      refine XS.goto X23.here hx rfl (pc0 := 54) (pc' := 58) rfl (hb hby at_54) (by decide) (by decide) ?_
      show Steps p.tables e below (T23.setTop (mkF m 58 #[.val (.int p1), .val (.int p2), .val (.int p3), .val (.ref r1), .val (.ref r2), .val (.int (1 : Int32)), .val (.ref b20), .unset, .unset, .unset, .unset, .unset, .unset, .unset] [(.int (1 : Int32))])) _
      refine XS.istore X23.here hx rfl (hb hby at_58) rfl (l' := #[.val (.int p1), .val (.int p2), .val (.int p3), .val (.ref r1), .val (.ref r2), .val (.int (1 : Int32)), .val (.ref b20), .val (.int (1 : Int32)), .unset, .unset, .unset, .unset, .unset, .unset]) rfl ?_
      show Steps p.tables e below (T23.setTop (mkF m 60 #[.val (.int p1), .val (.int p2), .val (.int p3), .val (.ref r1), .val (.ref r2), .val (.int (1 : Int32)), .val (.ref b20), .val (.int (1 : Int32)), .unset, .unset, .unset, .unset, .unset, .unset] [])) _
      refine XS.aload X23.here hx rfl (hb hby at_60) rfl rfl ?_
      show Steps p.tables e below (T23.setTop (mkF m 62 #[.val (.int p1), .val (.int p2), .val (.int p3), .val (.ref r1), .val (.ref r2), .val (.int (1 : Int32)), .val (.ref b20), .val (.int (1 : Int32)), .unset, .unset, .unset, .unset, .unset, .unset] [(.ref b20)])) _
      refine XS.aloadN X23.here hx rfl (hb hby at_62) rfl rfl ?_
      show Steps p.tables e below (T23.setTop (mkF m 63 #[.val (.int p1), .val (.int p2), .val (.int p3), .val (.ref r1), .val (.ref r2), .val (.int (1 : Int32)), .val (.ref b20), .val (.int (1 : Int32)), .unset, .unset, .unset, .unset, .unset, .unset] [(.ref r1), (.ref b20)])) _
      exact k
    -- pc 63: com/example/fixity/fixity/engine/AccountRequest.role
    obtain ⟨cq24, kq24, q24a, q24b, q24c⟩ := isOf hZ Kq23 A20
    obtain ⟨_, _, ⟨T24, L24, k24, n24⟩, -, X24, hSq24, hgq24, ⟨Lc24, hQ24, l24, y24, z24⟩, st24⟩ := X23.virtualBackS hx (y := (⟨"com/example/fixity/fixity/engine/AccountRequest", "role", "(Ljava/lang/String;)Lcom/example/fixity/fixity/engine/AccountRequest;"⟩ : MethodName)) (z := (⟨"com/example/fixity/fixity/engine/AccountRequest", "role", "(Ljava/lang/String;)Lcom/example/fixity/fixity/engine/AccountRequest;"⟩ : MethodName)) hown (mvT hZ (hw _ (List.mem_of_getElem? (i := 65) rfl))) (mvT hZ (hw _ (List.mem_of_getElem? (i := 66) rfl))) (notFace_of_selects (args := #[]) (mvT hZ (hw _ (List.mem_of_getElem? (i := 68) rfl)))) (mvT hZ (hw _ (List.mem_of_getElem? (i := 68) rfl))) (mvT hZ (hw _ (List.mem_of_getElem? (i := 67) rfl))) (by decide) (backOfS (W := 0) (rmSetrole l Z a0 hw [] b20 r1 (.null) T21.heap n0 O A20 Gq21_1 Gq21_0 Gq21_2 Gq21_3 Gq1_0 g_b20) hZ (hw _ (List.mem_of_getElem? (i := 69) rfl)) (hw _ (List.mem_of_getElem? (i := 39) rfl)) (by decide) (by decide)) q24a q24c (g := (mkF m 63 #[.val (.int p1), .val (.int p2), .val (.int p3), .val (.ref r1), .val (.ref r2), .val (.int (1 : Int32)), .val (.ref b20), .val (.int (1 : Int32)), .unset, .unset, .unset, .unset, .unset, .unset] [(.ref r1), (.ref b20)])) rfl (by rw [hml]; rfl) (Steps.refl _) (argsL := [(.ref r1)]) (rest := []) (lenOf pd_9 rfl) rfl (by show 2 * 0 + _ ≤ _; exact Nat.le_of_eq rfl) (hb hby at_63) (fun _ hWm => ⟨rfl, Kq23, (by decide : 9 + 2 ≤ _), (by decide : 27 + 24 ≤ _)⟩)
    dsimp only [Pt.U, Pt.locs, Pt.cells, Pt.slots] at X24 l24 y24 z24 st24 hQ24 hSq24 hgq24
    subst l24 y24 z24
    obtain ⟨X24, hS, hZ, hown⟩ := rebS hS (by rw [Kq23]; exact hk) X24 hSq24 hgq24 hZ hown
    obtain ⟨rfl, Nq24, Kq24, Gq24_0, Gq24_1, Gq24_2, Gq24_3⟩ := hQ24
    replace N := Fr.app N Nq24
    replace Gq1_0 := Gq1_0.keep Kq24
    replace Gq2_0 := Gq2_0.keep Kq24
    replace A20 := A20.keep Kq24
    clear Gq21_0
    clear Gq21_1
    clear Gq21_2
    clear Gq21_3
    replace O := O.keep Kq24 (allS g_b20 all0)
    have hk : T24.heap.size ≤ T24.heap.size := Nat.le_refl _
    refine own_go (B := T24.setTop (mkF m 66 #[.val (.int p1), .val (.int p2), .val (.int p3), .val (.ref r1), .val (.ref r2), .val (.int (1 : Int32)), .val (.ref b20), .val (.int (1 : Int32)), .unset, .unset, .unset, .unset, .unset, .unset] [(.ref b20)])) (fun t k => st24.trans k) ?_
    refine own_go (B := T24.setTop (mkF m 70 #[.val (.int p1), .val (.int p2), .val (.int p3), .val (.ref r1), .val (.ref r2), .val (.int (1 : Int32)), .val (.ref b20), .val (.int (1 : Int32)), .val (.ref b20), .unset, .unset, .unset, .unset, .unset] [(.ref b20)])) (fun t k => ?_) ?_
    · show Steps p.tables e below (T24.setTop (mkF m 66 #[.val (.int p1), .val (.int p2), .val (.int p3), .val (.ref r1), .val (.ref r2), .val (.int (1 : Int32)), .val (.ref b20), .val (.int (1 : Int32)), .unset, .unset, .unset, .unset, .unset, .unset] [(.ref b20)])) _
      refine XS.astore X24.here hx rfl (hb hby at_66) rfl rfl (l' := #[.val (.int p1), .val (.int p2), .val (.int p3), .val (.ref r1), .val (.ref r2), .val (.int (1 : Int32)), .val (.ref b20), .val (.int (1 : Int32)), .val (.ref b20), .unset, .unset, .unset, .unset, .unset]) rfl ?_
      show Steps p.tables e below (T24.setTop (mkF m 68 #[.val (.int p1), .val (.int p2), .val (.int p3), .val (.ref r1), .val (.ref r2), .val (.int (1 : Int32)), .val (.ref b20), .val (.int (1 : Int32)), .val (.ref b20), .unset, .unset, .unset, .unset, .unset] [])) _
      refine XS.aload X24.here hx rfl (hb hby at_68) rfl rfl ?_
      show Steps p.tables e below (T24.setTop (mkF m 70 #[.val (.int p1), .val (.int p2), .val (.int p3), .val (.ref r1), .val (.ref r2), .val (.int (1 : Int32)), .val (.ref b20), .val (.int (1 : Int32)), .val (.ref b20), .unset, .unset, .unset, .unset, .unset] [(.ref b20)])) _
      exact k
    -- pc 70: com/example/fixity/fixity/engine/AccountRequest.role
    obtain ⟨cq25, kq25, q25a, q25b, q25c⟩ := isOf hZ rfl A20
    obtain ⟨_, _, ⟨T25, L25, k25, n25⟩, -, X25, ⟨Lc25, hQ25, l25, y25, z25⟩, st25⟩ := X24.virtualBack hx (y := (⟨"com/example/fixity/fixity/engine/AccountRequest", "role", "()Ljava/util/Optional;"⟩ : MethodName)) (z := (⟨"com/example/fixity/fixity/engine/AccountRequest", "role", "()Ljava/util/Optional;"⟩ : MethodName)) hown (mvT hZ (hw _ (List.mem_of_getElem? (i := 46) rfl))) (mvT hZ (hw _ (List.mem_of_getElem? (i := 47) rfl))) (notFace_of_selects (args := #[]) (mvT hZ (hw _ (List.mem_of_getElem? (i := 49) rfl)))) (mvT hZ (hw _ (List.mem_of_getElem? (i := 49) rfl))) (mvT hZ (hw _ (List.mem_of_getElem? (i := 48) rfl))) (by decide) (backOf (W := 0) (rmG1role l Z a0 hw [] b20 r1 T24.heap n0 O Gq24_0) hZ (hw _ (List.mem_of_getElem? (i := 50) rfl)) (hw _ (List.mem_of_getElem? (i := 39) rfl)) (by decide) (by decide)) q25a q25c (g := (mkF m 70 #[.val (.int p1), .val (.int p2), .val (.int p3), .val (.ref r1), .val (.ref r2), .val (.int (1 : Int32)), .val (.ref b20), .val (.int (1 : Int32)), .val (.ref b20), .unset, .unset, .unset, .unset, .unset] [(.ref b20)])) rfl (by rw [hml]; rfl) (Steps.refl _) (argsL := []) (rest := []) (lenOf pd_7 rfl) rfl (by show 2 * 0 + _ ≤ _; exact Nat.le_of_eq rfl) (hb hby at_70) (fun _ hWm => ⟨rfl, rfl, (by decide : 11 + 1 ≤ _), (by decide : 51 + 1 ≤ _)⟩)
    dsimp only [Pt.U, Pt.locs, Pt.cells, Pt.slots] at X25 l25 y25 z25 st25 hQ25
    subst l25 y25 z25
    obtain ⟨r25, rfl, Nq25, Kq25, fq25_r, Gq25_0, Gq25_1⟩ := hQ25
    replace N := Fr.app N Nq25
    have lt_r1_r25 : r1 < r25 := Nat.lt_of_lt_of_le Gq1_0.lt fq25_r
    have lt_r2_r25 : r2 < r25 := Nat.lt_of_lt_of_le Gq2_0.lt fq25_r
    have lt_b20_r25 : b20 < r25 := Nat.lt_of_lt_of_le A20.lt fq25_r
    have g_r25 : n0 ≤ r25 := Nat.le_trans (own_oldsz O) fq25_r
    replace Gq1_0 := Gq1_0.keep Kq25
    replace Gq2_0 := Gq2_0.keep Kq25
    replace A20 := A20.keep Kq25
    replace Gq24_0 := Gq24_0.keep Kq25 nin0
    replace Gq24_1 := Gq24_1.keep Kq25 nin0
    replace Gq24_2 := Gq24_2.keep Kq25 nin0
    replace Gq24_3 := Gq24_3.keep Kq25 nin0
    replace O := O.keep Kq25 all0
    replace hk := Nat.le_trans hk Kq25.1
    refine own_go (B := T25.setTop (mkF m 73 #[.val (.int p1), .val (.int p2), .val (.int p3), .val (.ref r1), .val (.ref r2), .val (.int (1 : Int32)), .val (.ref b20), .val (.int (1 : Int32)), .val (.ref b20), .unset, .unset, .unset, .unset, .unset] [(.ref r25)])) (fun t k => st25.trans k) ?_
    refine own_go (B := T25.setTop (mkF m 84 #[.val (.int p1), .val (.int p2), .val (.int p3), .val (.ref r1), .val (.ref r2), .val (.int (1 : Int32)), .val (.ref b20), .val (.int (1 : Int32)), .val (.ref b20), .val (.ref r25), .unset, .unset, .unset, .unset] [(.ref r25)])) (fun t k => ?_) ?_
    · show Steps p.tables e below (T25.setTop (mkF m 73 #[.val (.int p1), .val (.int p2), .val (.int p3), .val (.ref r1), .val (.ref r2), .val (.int (1 : Int32)), .val (.ref b20), .val (.int (1 : Int32)), .val (.ref b20), .unset, .unset, .unset, .unset, .unset] [(.ref r25)])) _
      refine XS.astore X25.here hx rfl (hb hby at_73) rfl rfl (l' := #[.val (.int p1), .val (.int p2), .val (.int p3), .val (.ref r1), .val (.ref r2), .val (.int (1 : Int32)), .val (.ref b20), .val (.int (1 : Int32)), .val (.ref b20), .val (.ref r25), .unset, .unset, .unset, .unset]) rfl ?_
      show Steps p.tables e below (T25.setTop (mkF m 75 #[.val (.int p1), .val (.int p2), .val (.int p3), .val (.ref r1), .val (.ref r2), .val (.int (1 : Int32)), .val (.ref b20), .val (.int (1 : Int32)), .val (.ref b20), .val (.ref r25), .unset, .unset, .unset, .unset] [])) _
      refine XS.aload X25.here hx rfl (hb hby at_75) rfl rfl ?_
      show Steps p.tables e below (T25.setTop (mkF m 77 #[.val (.int p1), .val (.int p2), .val (.int p3), .val (.ref r1), .val (.ref r2), .val (.int (1 : Int32)), .val (.ref b20), .val (.int (1 : Int32)), .val (.ref b20), .val (.ref r25), .unset, .unset, .unset, .unset] [(.ref b20)])) _
      refine XS.aload X25.here hx rfl (hb hby at_77) rfl rfl ?_
      show Steps p.tables e below (T25.setTop (mkF m 79 #[.val (.int p1), .val (.int p2), .val (.int p3), .val (.ref r1), .val (.ref r2), .val (.int (1 : Int32)), .val (.ref b20), .val (.int (1 : Int32)), .val (.ref b20), .val (.ref r25), .unset, .unset, .unset, .unset] [(.ref b20), (.ref b20)])) _
      refine Jvm.RoadKit.acmp (g := (mkF m 79 #[.val (.int p1), .val (.int p2), .val (.int p3), .val (.ref r1), .val (.ref r2), .val (.int (1 : Int32)), .val (.ref b20), .val (.int (1 : Int32)), .val (.ref b20), .val (.ref r25), .unset, .unset, .unset, .unset] [(.ref b20), (.ref b20)])) X25 hx rfl rfl rfl (pc0 := 79) (pc' := 82) (same := true) rfl (hb hby at_79) rfl (decide_eq_true (congrArg Value.ref rfl)) (by decide) (by decide) ?_
      show Steps p.tables e below (T25.setTop (mkF m 82 #[.val (.int p1), .val (.int p2), .val (.int p3), .val (.ref r1), .val (.ref r2), .val (.int (1 : Int32)), .val (.ref b20), .val (.int (1 : Int32)), .val (.ref b20), .val (.ref r25), .unset, .unset, .unset, .unset] [])) _
      refine XS.aload X25.here hx rfl (hb hby at_82) rfl rfl ?_
      show Steps p.tables e below (T25.setTop (mkF m 84 #[.val (.int p1), .val (.int p2), .val (.int p3), .val (.ref r1), .val (.ref r2), .val (.int (1 : Int32)), .val (.ref b20), .val (.int (1 : Int32)), .val (.ref b20), .val (.ref r25), .unset, .unset, .unset, .unset] [(.ref r25)])) _
      exact k
    -- pc 84: java/util/Optional.isPresent
    obtain ⟨cq26, kq26, q26a, q26b, q26c⟩ := isOf hZ rfl Gq25_0
    obtain ⟨_, _, ⟨T26, L26, k26, n26⟩, -, X26, ⟨Lc26, hQ26, l26, y26, z26⟩, st26⟩ := X25.virtualBack hx (y := (⟨"java/util/Optional", "isPresent", "()Z"⟩ : MethodName)) (z := (⟨"java/util/Optional", "isPresent", "()Z"⟩ : MethodName)) hown (mvT hZ (hw _ (List.mem_of_getElem? (i := 58) rfl))) (mvT hZ (hw _ (List.mem_of_getElem? (i := 59) rfl))) (notFace_of_selects (args := #[]) (mvT hZ (hw _ (List.mem_of_getElem? (i := 61) rfl)))) (mvT hZ (hw _ (List.mem_of_getElem? (i := 61) rfl))) (mvT hZ (hw _ (List.mem_of_getElem? (i := 60) rfl))) (by decide) (backOf (W := 0) (rmIP1 l Z a0 hw [] r25 r1 T25.heap n0 O Gq25_1) hZ (hw _ (List.mem_of_getElem? (i := 62) rfl)) (hw _ (List.mem_of_getElem? (i := 55) rfl)) (by decide) (by decide)) q26a q26c (g := (mkF m 84 #[.val (.int p1), .val (.int p2), .val (.int p3), .val (.ref r1), .val (.ref r2), .val (.int (1 : Int32)), .val (.ref b20), .val (.int (1 : Int32)), .val (.ref b20), .val (.ref r25), .unset, .unset, .unset, .unset] [(.ref r25)])) rfl (by rw [hml]; rfl) (Steps.refl _) (argsL := []) (rest := []) (lenOf pd_8 rfl) rfl (by show 2 * 0 + _ ≤ _; exact Nat.le_of_eq rfl) (hb hby at_84) (fun _ hWm => ⟨rfl, rfl, (by decide : 12 + 0 ≤ _), (by decide : 52 + 0 ≤ _)⟩)
    dsimp only [Pt.U, Pt.locs, Pt.cells, Pt.slots] at X26 l26 y26 z26 st26 hQ26
    subst l26 y26 z26
    obtain ⟨rfl, Nq26, Kq26⟩ := hQ26
    replace N := Fr.app N Nq26
    refine own_go (B := T26.setTop (mkF m 87 #[.val (.int p1), .val (.int p2), .val (.int p3), .val (.ref r1), .val (.ref r2), .val (.int (1 : Int32)), .val (.ref b20), .val (.int (1 : Int32)), .val (.ref b20), .val (.ref r25), .unset, .unset, .unset, .unset] [(.int (1 : Int32))])) (fun t k => st26.trans k) ?_
    refine own_go (B := T26.setTop (mkF m 92 #[.val (.int p1), .val (.int p2), .val (.int p3), .val (.ref r1), .val (.ref r2), .val (.int (1 : Int32)), .val (.ref b20), .val (.int (1 : Int32)), .val (.ref b20), .val (.ref r25), .unset, .unset, .unset, .unset] [(.ref r25)])) (fun t k => ?_) ?_
    · show Steps p.tables e below (T26.setTop (mkF m 87 #[.val (.int p1), .val (.int p2), .val (.int p3), .val (.ref r1), .val (.ref r2), .val (.int (1 : Int32)), .val (.ref b20), .val (.int (1 : Int32)), .val (.ref b20), .val (.ref r25), .unset, .unset, .unset, .unset] [(.int (1 : Int32))])) _
      refine XS.ifNo X26.here hx rfl (hb hby at_87) rfl ((if0 _ _).trans (feq (by decide)).1) ?_
      show Steps p.tables e below (T26.setTop (mkF m 90 #[.val (.int p1), .val (.int p2), .val (.int p3), .val (.ref r1), .val (.ref r2), .val (.int (1 : Int32)), .val (.ref b20), .val (.int (1 : Int32)), .val (.ref b20), .val (.ref r25), .unset, .unset, .unset, .unset] [])) _
      refine XS.aload X26.here hx rfl (hb hby at_90) rfl rfl ?_
      show Steps p.tables e below (T26.setTop (mkF m 92 #[.val (.int p1), .val (.int p2), .val (.int p3), .val (.ref r1), .val (.ref r2), .val (.int (1 : Int32)), .val (.ref b20), .val (.int (1 : Int32)), .val (.ref b20), .val (.ref r25), .unset, .unset, .unset, .unset] [(.ref r25)])) _
      exact k
    -- pc 92: java/util/Optional.get
    obtain ⟨cq27, kq27, q27a, q27b, q27c⟩ := isOf hZ Kq26 Gq25_0
    obtain ⟨_, _, ⟨T27, L27, k27, n27⟩, -, X27, ⟨Lc27, hQ27, l27, y27, z27⟩, st27⟩ := X26.virtualBack hx (y := (⟨"java/util/Optional", "get", "()Ljava/lang/Object;"⟩ : MethodName)) (z := (⟨"java/util/Optional", "get", "()Ljava/lang/Object;"⟩ : MethodName)) hown (mvT hZ (hw _ (List.mem_of_getElem? (i := 83) rfl))) (mvT hZ (hw _ (List.mem_of_getElem? (i := 84) rfl))) (notFace_of_selects (args := #[]) (mvT hZ (hw _ (List.mem_of_getElem? (i := 86) rfl)))) (mvT hZ (hw _ (List.mem_of_getElem? (i := 86) rfl))) (mvT hZ (hw _ (List.mem_of_getElem? (i := 85) rfl))) (by decide) (backOf (W := 0) (rmOG l Z a0 hw [] r25 r1 T25.heap n0 O Gq25_1) hZ (hw _ (List.mem_of_getElem? (i := 87) rfl)) (hw _ (List.mem_of_getElem? (i := 55) rfl)) (by decide) (by decide)) q27a q27c (g := (mkF m 92 #[.val (.int p1), .val (.int p2), .val (.int p3), .val (.ref r1), .val (.ref r2), .val (.int (1 : Int32)), .val (.ref b20), .val (.int (1 : Int32)), .val (.ref b20), .val (.ref r25), .unset, .unset, .unset, .unset] [(.ref r25)])) rfl (by rw [hml]; rfl) (Steps.refl _) (argsL := []) (rest := []) (lenOf pd_10 rfl) rfl (by show 2 * 0 + _ ≤ _; exact Nat.le_of_eq rfl) (hb hby at_92) (fun _ hWm => ⟨rfl, Kq26, (by decide : 12 + 0 ≤ _), (by decide : 52 + 0 ≤ _)⟩)
    dsimp only [Pt.U, Pt.locs, Pt.cells, Pt.slots] at X27 l27 y27 z27 st27 hQ27
    subst l27 y27 z27
    obtain ⟨rfl, Nq27, Kq27⟩ := hQ27
    replace N := Fr.app N Nq27
    refine own_go (B := T27.setTop (mkF m 95 #[.val (.int p1), .val (.int p2), .val (.int p3), .val (.ref r1), .val (.ref r2), .val (.int (1 : Int32)), .val (.ref b20), .val (.int (1 : Int32)), .val (.ref b20), .val (.ref r25), .unset, .unset, .unset, .unset] [(.ref r1)])) (fun t k => st27.trans k) ?_
    obtain ⟨T28, X28, e28, st28⟩ := castY X27 hx hZ hown (hw _ (List.mem_of_getElem? (i := 4) rfl)) Kq27 (Ins.self Gq1_0) (g := (mkF m 95 #[.val (.int p1), .val (.int p2), .val (.int p3), .val (.ref r1), .val (.ref r2), .val (.int (1 : Int32)), .val (.ref b20), .val (.int (1 : Int32)), .val (.ref b20), .val (.ref r25), .unset, .unset, .unset, .unset] [(.ref r1)])) rfl rfl (hb hby at_95)
    refine own_go (B := T28.setTop (mkF m 98 #[.val (.int p1), .val (.int p2), .val (.int p3), .val (.ref r1), .val (.ref r2), .val (.int (1 : Int32)), .val (.ref b20), .val (.int (1 : Int32)), .val (.ref b20), .val (.ref r25), .unset, .unset, .unset, .unset] [(.ref r1)])) st28 ?_
    refine own_go (B := T28.setTop (mkF m 99 #[.val (.int p1), .val (.int p2), .val (.int p3), .val (.ref r1), .val (.ref r2), .val (.int (1 : Int32)), .val (.ref b20), .val (.int (1 : Int32)), .val (.ref b20), .val (.ref r25), .unset, .unset, .unset, .unset] [(.ref r1), (.ref r1)])) (fun t k => ?_) ?_
    · show Steps p.tables e below (T28.setTop (mkF m 98 #[.val (.int p1), .val (.int p2), .val (.int p3), .val (.ref r1), .val (.ref r2), .val (.int (1 : Int32)), .val (.ref b20), .val (.int (1 : Int32)), .val (.ref b20), .val (.ref r25), .unset, .unset, .unset, .unset] [(.ref r1)])) _
      refine XS.aloadN X28.here hx rfl (hb hby at_98) rfl rfl ?_
      show Steps p.tables e below (T28.setTop (mkF m 99 #[.val (.int p1), .val (.int p2), .val (.int p3), .val (.ref r1), .val (.ref r2), .val (.int (1 : Int32)), .val (.ref b20), .val (.int (1 : Int32)), .val (.ref b20), .val (.ref r25), .unset, .unset, .unset, .unset] [(.ref r1), (.ref r1)])) _
      exact k
    -- pc 99: java/lang/String.equals
    obtain ⟨cq29, kq29, q29a, q29b, q29c⟩ := isOf hZ e28 Gq1_0
    obtain ⟨_, _, ⟨T29, L29, k29, n29⟩, -, X29, ⟨Lc29, hQ29, l29, y29, z29⟩, st29⟩ := X28.virtualBack hx (y := (⟨"java/lang/String", "equals", "(Ljava/lang/Object;)Z"⟩ : MethodName)) (z := (⟨"java/lang/String", "equals", "(Ljava/lang/Object;)Z"⟩ : MethodName)) hown (mvT hZ (hw _ (List.mem_of_getElem? (i := 88) rfl))) (mvT hZ (hw _ (List.mem_of_getElem? (i := 89) rfl))) (notFace_of_selects (args := #[]) (mvT hZ (hw _ (List.mem_of_getElem? (i := 91) rfl)))) (mvT hZ (hw _ (List.mem_of_getElem? (i := 91) rfl))) (mvT hZ (hw _ (List.mem_of_getElem? (i := 90) rfl))) (by decide) (backOf (W := 0) (rmEqS l Z a0 hw [] r1 T25.heap n0 O ) hZ (hw _ (List.mem_of_getElem? (i := 92) rfl)) (hw _ (List.mem_of_getElem? (i := 6) rfl)) (by decide) (by decide)) q29a q29c (g := (mkF m 99 #[.val (.int p1), .val (.int p2), .val (.int p3), .val (.ref r1), .val (.ref r2), .val (.int (1 : Int32)), .val (.ref b20), .val (.int (1 : Int32)), .val (.ref b20), .val (.ref r25), .unset, .unset, .unset, .unset] [(.ref r1), (.ref r1)])) rfl (by rw [hml]; rfl) (Steps.refl _) (argsL := [(.ref r1)]) (rest := []) (lenOf pd_11 rfl) rfl (by show 2 * 0 + _ ≤ _; exact Nat.le_of_eq rfl) (hb hby at_99) (fun _ hWm => ⟨rfl, e28, (by decide : 12 + 0 ≤ _), (by decide : 52 + 0 ≤ _)⟩)
    dsimp only [Pt.U, Pt.locs, Pt.cells, Pt.slots] at X29 l29 y29 z29 st29 hQ29
    subst l29 y29 z29
    obtain ⟨rfl, Nq29, Kq29⟩ := hQ29
    replace N := Fr.app N Nq29
    refine own_go (B := T29.setTop (mkF m 102 #[.val (.int p1), .val (.int p2), .val (.int p3), .val (.ref r1), .val (.ref r2), .val (.int (1 : Int32)), .val (.ref b20), .val (.int (1 : Int32)), .val (.ref b20), .val (.ref r25), .unset, .unset, .unset, .unset] [(.int (1 : Int32))])) (fun t k => st29.trans k) ?_
    refine own_go (B := T29.setTop (mkF m 124 #[.val (.int p1), .val (.int p2), .val (.int p3), .val (.ref r1), .val (.ref r2), .val (.int (1 : Int32)), .val (.ref b20), .val (.int (1 : Int32)), .val (.ref b20), .val (.ref r25), .val (.int (1 : Int32)), .val (.int (1 : Int32)), .unset, .unset] [(.ref r2), (.ref b20)])) (fun t k => ?_) ?_
    · show Steps p.tables e below (T29.setTop (mkF m 102 #[.val (.int p1), .val (.int p2), .val (.int p3), .val (.ref r1), .val (.ref r2), .val (.int (1 : Int32)), .val (.ref b20), .val (.int (1 : Int32)), .val (.ref b20), .val (.ref r25), .unset, .unset, .unset, .unset] [(.int (1 : Int32))])) _
      refine XS.ifNo X29.here hx rfl (hb hby at_102) rfl ((if0 _ _).trans (feq (by decide)).1) ?_
      show Steps p.tables e below (T29.setTop (mkF m 105 #[.val (.int p1), .val (.int p2), .val (.int p3), .val (.ref r1), .val (.ref r2), .val (.int (1 : Int32)), .val (.ref b20), .val (.int (1 : Int32)), .val (.ref b20), .val (.ref r25), .unset, .unset, .unset, .unset] [])) _
      refine XS.iconst X29.here hx rfl (hb hby at_105) ?_
      show Steps p.tables e below (T29.setTop (mkF m 106 #[.val (.int p1), .val (.int p2), .val (.int p3), .val (.ref r1), .val (.ref r2), .val (.int (1 : Int32)), .val (.ref b20), .val (.int (1 : Int32)), .val (.ref b20), .val (.ref r25), .unset, .unset, .unset, .unset] [(.int (1 : Int32))])) _
      refine XS.goto X29.here hx rfl (pc0 := 106) (pc' := 110) rfl (hb hby at_106) (by decide) (by decide) ?_
      show Steps p.tables e below (T29.setTop (mkF m 110 #[.val (.int p1), .val (.int p2), .val (.int p3), .val (.ref r1), .val (.ref r2), .val (.int (1 : Int32)), .val (.ref b20), .val (.int (1 : Int32)), .val (.ref b20), .val (.ref r25), .unset, .unset, .unset, .unset] [(.int (1 : Int32))])) _
      refine XS.istore X29.here hx rfl (hb hby at_110) rfl (l' := #[.val (.int p1), .val (.int p2), .val (.int p3), .val (.ref r1), .val (.ref r2), .val (.int (1 : Int32)), .val (.ref b20), .val (.int (1 : Int32)), .val (.ref b20), .val (.ref r25), .val (.int (1 : Int32)), .unset, .unset, .unset]) rfl ?_
      show Steps p.tables e below (T29.setTop (mkF m 112 #[.val (.int p1), .val (.int p2), .val (.int p3), .val (.ref r1), .val (.ref r2), .val (.int (1 : Int32)), .val (.ref b20), .val (.int (1 : Int32)), .val (.ref b20), .val (.ref r25), .val (.int (1 : Int32)), .unset, .unset, .unset] [])) _
      refine XS.iconst X29.here hx rfl (hb hby at_112) ?_
      show Steps p.tables e below (T29.setTop (mkF m 113 #[.val (.int p1), .val (.int p2), .val (.int p3), .val (.ref r1), .val (.ref r2), .val (.int (1 : Int32)), .val (.ref b20), .val (.int (1 : Int32)), .val (.ref b20), .val (.ref r25), .val (.int (1 : Int32)), .unset, .unset, .unset] [(.int (1 : Int32))])) _
      refine XS.istore X29.here hx rfl (hb hby at_113) rfl (l' := #[.val (.int p1), .val (.int p2), .val (.int p3), .val (.ref r1), .val (.ref r2), .val (.int (1 : Int32)), .val (.ref b20), .val (.int (1 : Int32)), .val (.ref b20), .val (.ref r25), .val (.int (1 : Int32)), .val (.int (1 : Int32)), .unset, .unset]) rfl ?_
      show Steps p.tables e below (T29.setTop (mkF m 115 #[.val (.int p1), .val (.int p2), .val (.int p3), .val (.ref r1), .val (.ref r2), .val (.int (1 : Int32)), .val (.ref b20), .val (.int (1 : Int32)), .val (.ref b20), .val (.ref r25), .val (.int (1 : Int32)), .val (.int (1 : Int32)), .unset, .unset] [])) _
      refine XS.iload X29.here hx rfl (hb hby at_115) rfl ?_
      show Steps p.tables e below (T29.setTop (mkF m 117 #[.val (.int p1), .val (.int p2), .val (.int p3), .val (.ref r1), .val (.ref r2), .val (.int (1 : Int32)), .val (.ref b20), .val (.int (1 : Int32)), .val (.ref b20), .val (.ref r25), .val (.int (1 : Int32)), .val (.int (1 : Int32)), .unset, .unset] [(.int (1 : Int32))])) _
      refine XS.ifNo X29.here hx rfl (hb hby at_117) rfl ((if0 _ _).trans (feq (by decide)).1) ?_
      show Steps p.tables e below (T29.setTop (mkF m 120 #[.val (.int p1), .val (.int p2), .val (.int p3), .val (.ref r1), .val (.ref r2), .val (.int (1 : Int32)), .val (.ref b20), .val (.int (1 : Int32)), .val (.ref b20), .val (.ref r25), .val (.int (1 : Int32)), .val (.int (1 : Int32)), .unset, .unset] [])) _
      refine XS.aload X29.here hx rfl (hb hby at_120) rfl rfl ?_
      show Steps p.tables e below (T29.setTop (mkF m 122 #[.val (.int p1), .val (.int p2), .val (.int p3), .val (.ref r1), .val (.ref r2), .val (.int (1 : Int32)), .val (.ref b20), .val (.int (1 : Int32)), .val (.ref b20), .val (.ref r25), .val (.int (1 : Int32)), .val (.int (1 : Int32)), .unset, .unset] [(.ref b20)])) _
      refine XS.aload X29.here hx rfl (hb hby at_122) rfl rfl ?_
      show Steps p.tables e below (T29.setTop (mkF m 124 #[.val (.int p1), .val (.int p2), .val (.int p3), .val (.ref r1), .val (.ref r2), .val (.int (1 : Int32)), .val (.ref b20), .val (.int (1 : Int32)), .val (.ref b20), .val (.ref r25), .val (.int (1 : Int32)), .val (.int (1 : Int32)), .unset, .unset] [(.ref r2), (.ref b20)])) _
      exact k
    -- pc 124: com/example/fixity/fixity/engine/AccountRequest.role
    obtain ⟨cq30, kq30, q30a, q30b, q30c⟩ := isOf hZ Kq29 A20
    obtain ⟨_, _, ⟨T30, L30, k30, n30⟩, -, X30, hSq30, hgq30, ⟨Lc30, hQ30, l30, y30, z30⟩, st30⟩ := X29.virtualBackS hx (y := (⟨"com/example/fixity/fixity/engine/AccountRequest", "role", "(Ljava/lang/String;)Lcom/example/fixity/fixity/engine/AccountRequest;"⟩ : MethodName)) (z := (⟨"com/example/fixity/fixity/engine/AccountRequest", "role", "(Ljava/lang/String;)Lcom/example/fixity/fixity/engine/AccountRequest;"⟩ : MethodName)) hown (mvT hZ (hw _ (List.mem_of_getElem? (i := 65) rfl))) (mvT hZ (hw _ (List.mem_of_getElem? (i := 66) rfl))) (notFace_of_selects (args := #[]) (mvT hZ (hw _ (List.mem_of_getElem? (i := 68) rfl)))) (mvT hZ (hw _ (List.mem_of_getElem? (i := 68) rfl))) (mvT hZ (hw _ (List.mem_of_getElem? (i := 67) rfl))) (by decide) (backOfS (W := 0) (rmSetrole l Z a0 hw [] b20 r2 (.ref r1) T25.heap n0 O A20 Gq24_0 Gq24_1 Gq24_2 Gq24_3 Gq2_0 g_b20) hZ (hw _ (List.mem_of_getElem? (i := 69) rfl)) (hw _ (List.mem_of_getElem? (i := 39) rfl)) (by decide) (by decide)) q30a q30c (g := (mkF m 124 #[.val (.int p1), .val (.int p2), .val (.int p3), .val (.ref r1), .val (.ref r2), .val (.int (1 : Int32)), .val (.ref b20), .val (.int (1 : Int32)), .val (.ref b20), .val (.ref r25), .val (.int (1 : Int32)), .val (.int (1 : Int32)), .unset, .unset] [(.ref r2), (.ref b20)])) rfl (by rw [hml]; rfl) (Steps.refl _) (argsL := [(.ref r2)]) (rest := []) (lenOf pd_9 rfl) rfl (by show 2 * 0 + _ ≤ _; exact Nat.le_of_eq rfl) (hb hby at_124) (fun _ hWm => ⟨rfl, Kq29, (by decide : 12 + 2 ≤ _), (by decide : 52 + 24 ≤ _)⟩)
    dsimp only [Pt.U, Pt.locs, Pt.cells, Pt.slots] at X30 l30 y30 z30 st30 hQ30 hSq30 hgq30
    subst l30 y30 z30
    obtain ⟨X30, hS, hZ, hown⟩ := rebS hS (by rw [Kq29]; exact hk) X30 hSq30 hgq30 hZ hown
    obtain ⟨rfl, Nq30, Kq30, Gq30_0, Gq30_1, Gq30_2, Gq30_3⟩ := hQ30
    replace N := Fr.app N Nq30
    replace Gq1_0 := Gq1_0.keep Kq30
    replace Gq2_0 := Gq2_0.keep Kq30
    replace A20 := A20.keep Kq30
    clear Gq24_0
    clear Gq24_1
    clear Gq24_2
    clear Gq24_3
    replace Gq25_0 := Gq25_0.keep Kq30
    replace Gq25_1 := Gq25_1.keep Kq30 (ninS (Nat.ne_of_gt lt_b20_r25) nin0)
    replace O := O.keep Kq30 (allS g_b20 all0)
    have hk : T30.heap.size ≤ T30.heap.size := Nat.le_refl _
    refine own_go (B := T30.setTop (mkF m 127 #[.val (.int p1), .val (.int p2), .val (.int p3), .val (.ref r1), .val (.ref r2), .val (.int (1 : Int32)), .val (.ref b20), .val (.int (1 : Int32)), .val (.ref b20), .val (.ref r25), .val (.int (1 : Int32)), .val (.int (1 : Int32)), .unset, .unset] [(.ref b20)])) (fun t k => st30.trans k) ?_
    refine own_go (B := T30.setTop (mkF m 131 #[.val (.int p1), .val (.int p2), .val (.int p3), .val (.ref r1), .val (.ref r2), .val (.int (1 : Int32)), .val (.ref b20), .val (.int (1 : Int32)), .val (.ref b20), .val (.ref r25), .val (.int (1 : Int32)), .val (.int (1 : Int32)), .val (.ref b20), .unset] [(.ref b20)])) (fun t k => ?_) ?_
    · show Steps p.tables e below (T30.setTop (mkF m 127 #[.val (.int p1), .val (.int p2), .val (.int p3), .val (.ref r1), .val (.ref r2), .val (.int (1 : Int32)), .val (.ref b20), .val (.int (1 : Int32)), .val (.ref b20), .val (.ref r25), .val (.int (1 : Int32)), .val (.int (1 : Int32)), .unset, .unset] [(.ref b20)])) _
      refine XS.astore X30.here hx rfl (hb hby at_127) rfl rfl (l' := #[.val (.int p1), .val (.int p2), .val (.int p3), .val (.ref r1), .val (.ref r2), .val (.int (1 : Int32)), .val (.ref b20), .val (.int (1 : Int32)), .val (.ref b20), .val (.ref r25), .val (.int (1 : Int32)), .val (.int (1 : Int32)), .val (.ref b20), .unset]) rfl ?_
      show Steps p.tables e below (T30.setTop (mkF m 129 #[.val (.int p1), .val (.int p2), .val (.int p3), .val (.ref r1), .val (.ref r2), .val (.int (1 : Int32)), .val (.ref b20), .val (.int (1 : Int32)), .val (.ref b20), .val (.ref r25), .val (.int (1 : Int32)), .val (.int (1 : Int32)), .val (.ref b20), .unset] [])) _
      refine XS.aload X30.here hx rfl (hb hby at_129) rfl rfl ?_
      show Steps p.tables e below (T30.setTop (mkF m 131 #[.val (.int p1), .val (.int p2), .val (.int p3), .val (.ref r1), .val (.ref r2), .val (.int (1 : Int32)), .val (.ref b20), .val (.int (1 : Int32)), .val (.ref b20), .val (.ref r25), .val (.int (1 : Int32)), .val (.int (1 : Int32)), .val (.ref b20), .unset] [(.ref b20)])) _
      exact k
    -- pc 131: com/example/fixity/fixity/engine/AccountRequest.role
    obtain ⟨cq31, kq31, q31a, q31b, q31c⟩ := isOf hZ rfl A20
    obtain ⟨_, _, ⟨T31, L31, k31, n31⟩, -, X31, ⟨Lc31, hQ31, l31, y31, z31⟩, st31⟩ := X30.virtualBack hx (y := (⟨"com/example/fixity/fixity/engine/AccountRequest", "role", "()Ljava/util/Optional;"⟩ : MethodName)) (z := (⟨"com/example/fixity/fixity/engine/AccountRequest", "role", "()Ljava/util/Optional;"⟩ : MethodName)) hown (mvT hZ (hw _ (List.mem_of_getElem? (i := 46) rfl))) (mvT hZ (hw _ (List.mem_of_getElem? (i := 47) rfl))) (notFace_of_selects (args := #[]) (mvT hZ (hw _ (List.mem_of_getElem? (i := 49) rfl)))) (mvT hZ (hw _ (List.mem_of_getElem? (i := 49) rfl))) (mvT hZ (hw _ (List.mem_of_getElem? (i := 48) rfl))) (by decide) (backOf (W := 0) (rmG1role l Z a0 hw [] b20 r2 T30.heap n0 O Gq30_0) hZ (hw _ (List.mem_of_getElem? (i := 50) rfl)) (hw _ (List.mem_of_getElem? (i := 39) rfl)) (by decide) (by decide)) q31a q31c (g := (mkF m 131 #[.val (.int p1), .val (.int p2), .val (.int p3), .val (.ref r1), .val (.ref r2), .val (.int (1 : Int32)), .val (.ref b20), .val (.int (1 : Int32)), .val (.ref b20), .val (.ref r25), .val (.int (1 : Int32)), .val (.int (1 : Int32)), .val (.ref b20), .unset] [(.ref b20)])) rfl (by rw [hml]; rfl) (Steps.refl _) (argsL := []) (rest := []) (lenOf pd_7 rfl) rfl (by show 2 * 0 + _ ≤ _; exact Nat.le_of_eq rfl) (hb hby at_131) (fun _ hWm => ⟨rfl, rfl, (by decide : 14 + 1 ≤ _), (by decide : 76 + 1 ≤ _)⟩)
    dsimp only [Pt.U, Pt.locs, Pt.cells, Pt.slots] at X31 l31 y31 z31 st31 hQ31
    subst l31 y31 z31
    obtain ⟨r31, rfl, Nq31, Kq31, fq31_r, Gq31_0, Gq31_1⟩ := hQ31
    replace N := Fr.app N Nq31
    have lt_r1_r31 : r1 < r31 := Nat.lt_of_lt_of_le Gq1_0.lt fq31_r
    have lt_r2_r31 : r2 < r31 := Nat.lt_of_lt_of_le Gq2_0.lt fq31_r
    have lt_b20_r31 : b20 < r31 := Nat.lt_of_lt_of_le A20.lt fq31_r
    have lt_r25_r31 : r25 < r31 := Nat.lt_of_lt_of_le Gq25_0.lt fq31_r
    have g_r31 : n0 ≤ r31 := Nat.le_trans (own_oldsz O) fq31_r
    replace Gq1_0 := Gq1_0.keep Kq31
    replace Gq2_0 := Gq2_0.keep Kq31
    replace A20 := A20.keep Kq31
    replace Gq25_0 := Gq25_0.keep Kq31
    replace Gq25_1 := Gq25_1.keep Kq31 nin0
    replace Gq30_0 := Gq30_0.keep Kq31 nin0
    replace Gq30_1 := Gq30_1.keep Kq31 nin0
    replace Gq30_2 := Gq30_2.keep Kq31 nin0
    replace Gq30_3 := Gq30_3.keep Kq31 nin0
    replace O := O.keep Kq31 all0
    replace hk := Nat.le_trans hk Kq31.1
    refine own_go (B := T31.setTop (mkF m 134 #[.val (.int p1), .val (.int p2), .val (.int p3), .val (.ref r1), .val (.ref r2), .val (.int (1 : Int32)), .val (.ref b20), .val (.int (1 : Int32)), .val (.ref b20), .val (.ref r25), .val (.int (1 : Int32)), .val (.int (1 : Int32)), .val (.ref b20), .unset] [(.ref r31)])) (fun t k => st31.trans k) ?_
    refine own_go (B := T31.setTop (mkF m 145 #[.val (.int p1), .val (.int p2), .val (.int p3), .val (.ref r1), .val (.ref r2), .val (.int (1 : Int32)), .val (.ref b20), .val (.int (1 : Int32)), .val (.ref b20), .val (.ref r25), .val (.int (1 : Int32)), .val (.int (1 : Int32)), .val (.ref b20), .val (.ref r31)] [(.ref r31)])) (fun t k => ?_) ?_
    · show Steps p.tables e below (T31.setTop (mkF m 134 #[.val (.int p1), .val (.int p2), .val (.int p3), .val (.ref r1), .val (.ref r2), .val (.int (1 : Int32)), .val (.ref b20), .val (.int (1 : Int32)), .val (.ref b20), .val (.ref r25), .val (.int (1 : Int32)), .val (.int (1 : Int32)), .val (.ref b20), .unset] [(.ref r31)])) _
      refine XS.astore X31.here hx rfl (hb hby at_134) rfl rfl (l' := #[.val (.int p1), .val (.int p2), .val (.int p3), .val (.ref r1), .val (.ref r2), .val (.int (1 : Int32)), .val (.ref b20), .val (.int (1 : Int32)), .val (.ref b20), .val (.ref r25), .val (.int (1 : Int32)), .val (.int (1 : Int32)), .val (.ref b20), .val (.ref r31)]) rfl ?_
      show Steps p.tables e below (T31.setTop (mkF m 136 #[.val (.int p1), .val (.int p2), .val (.int p3), .val (.ref r1), .val (.ref r2), .val (.int (1 : Int32)), .val (.ref b20), .val (.int (1 : Int32)), .val (.ref b20), .val (.ref r25), .val (.int (1 : Int32)), .val (.int (1 : Int32)), .val (.ref b20), .val (.ref r31)] [])) _
      refine XS.aload X31.here hx rfl (hb hby at_136) rfl rfl ?_
      show Steps p.tables e below (T31.setTop (mkF m 138 #[.val (.int p1), .val (.int p2), .val (.int p3), .val (.ref r1), .val (.ref r2), .val (.int (1 : Int32)), .val (.ref b20), .val (.int (1 : Int32)), .val (.ref b20), .val (.ref r25), .val (.int (1 : Int32)), .val (.int (1 : Int32)), .val (.ref b20), .val (.ref r31)] [(.ref b20)])) _
      refine XS.aload X31.here hx rfl (hb hby at_138) rfl rfl ?_
      show Steps p.tables e below (T31.setTop (mkF m 140 #[.val (.int p1), .val (.int p2), .val (.int p3), .val (.ref r1), .val (.ref r2), .val (.int (1 : Int32)), .val (.ref b20), .val (.int (1 : Int32)), .val (.ref b20), .val (.ref r25), .val (.int (1 : Int32)), .val (.int (1 : Int32)), .val (.ref b20), .val (.ref r31)] [(.ref b20), (.ref b20)])) _
      refine Jvm.RoadKit.acmp (g := (mkF m 140 #[.val (.int p1), .val (.int p2), .val (.int p3), .val (.ref r1), .val (.ref r2), .val (.int (1 : Int32)), .val (.ref b20), .val (.int (1 : Int32)), .val (.ref b20), .val (.ref r25), .val (.int (1 : Int32)), .val (.int (1 : Int32)), .val (.ref b20), .val (.ref r31)] [(.ref b20), (.ref b20)])) X31 hx rfl rfl rfl (pc0 := 140) (pc' := 143) (same := true) rfl (hb hby at_140) rfl (decide_eq_true (congrArg Value.ref rfl)) (by decide) (by decide) ?_
      show Steps p.tables e below (T31.setTop (mkF m 143 #[.val (.int p1), .val (.int p2), .val (.int p3), .val (.ref r1), .val (.ref r2), .val (.int (1 : Int32)), .val (.ref b20), .val (.int (1 : Int32)), .val (.ref b20), .val (.ref r25), .val (.int (1 : Int32)), .val (.int (1 : Int32)), .val (.ref b20), .val (.ref r31)] [])) _
      refine XS.aload X31.here hx rfl (hb hby at_143) rfl rfl ?_
      show Steps p.tables e below (T31.setTop (mkF m 145 #[.val (.int p1), .val (.int p2), .val (.int p3), .val (.ref r1), .val (.ref r2), .val (.int (1 : Int32)), .val (.ref b20), .val (.int (1 : Int32)), .val (.ref b20), .val (.ref r25), .val (.int (1 : Int32)), .val (.int (1 : Int32)), .val (.ref b20), .val (.ref r31)] [(.ref r31)])) _
      exact k
    -- pc 145: java/util/Optional.isPresent
    obtain ⟨cq32, kq32, q32a, q32b, q32c⟩ := isOf hZ rfl Gq31_0
    obtain ⟨_, _, ⟨T32, L32, k32, n32⟩, -, X32, ⟨Lc32, hQ32, l32, y32, z32⟩, st32⟩ := X31.virtualBack hx (y := (⟨"java/util/Optional", "isPresent", "()Z"⟩ : MethodName)) (z := (⟨"java/util/Optional", "isPresent", "()Z"⟩ : MethodName)) hown (mvT hZ (hw _ (List.mem_of_getElem? (i := 58) rfl))) (mvT hZ (hw _ (List.mem_of_getElem? (i := 59) rfl))) (notFace_of_selects (args := #[]) (mvT hZ (hw _ (List.mem_of_getElem? (i := 61) rfl)))) (mvT hZ (hw _ (List.mem_of_getElem? (i := 61) rfl))) (mvT hZ (hw _ (List.mem_of_getElem? (i := 60) rfl))) (by decide) (backOf (W := 0) (rmIP1 l Z a0 hw [] r31 r2 T31.heap n0 O Gq31_1) hZ (hw _ (List.mem_of_getElem? (i := 62) rfl)) (hw _ (List.mem_of_getElem? (i := 55) rfl)) (by decide) (by decide)) q32a q32c (g := (mkF m 145 #[.val (.int p1), .val (.int p2), .val (.int p3), .val (.ref r1), .val (.ref r2), .val (.int (1 : Int32)), .val (.ref b20), .val (.int (1 : Int32)), .val (.ref b20), .val (.ref r25), .val (.int (1 : Int32)), .val (.int (1 : Int32)), .val (.ref b20), .val (.ref r31)] [(.ref r31)])) rfl (by rw [hml]; rfl) (Steps.refl _) (argsL := []) (rest := []) (lenOf pd_8 rfl) rfl (by show 2 * 0 + _ ≤ _; exact Nat.le_of_eq rfl) (hb hby at_145) (fun _ hWm => ⟨rfl, rfl, (by decide : 15 + 0 ≤ _), (by decide : 77 + 0 ≤ _)⟩)
    dsimp only [Pt.U, Pt.locs, Pt.cells, Pt.slots] at X32 l32 y32 z32 st32 hQ32
    subst l32 y32 z32
    obtain ⟨rfl, Nq32, Kq32⟩ := hQ32
    replace N := Fr.app N Nq32
    refine own_go (B := T32.setTop (mkF m 148 #[.val (.int p1), .val (.int p2), .val (.int p3), .val (.ref r1), .val (.ref r2), .val (.int (1 : Int32)), .val (.ref b20), .val (.int (1 : Int32)), .val (.ref b20), .val (.ref r25), .val (.int (1 : Int32)), .val (.int (1 : Int32)), .val (.ref b20), .val (.ref r31)] [(.int (1 : Int32))])) (fun t k => st32.trans k) ?_
    refine own_go (B := T32.setTop (mkF m 153 #[.val (.int p1), .val (.int p2), .val (.int p3), .val (.ref r1), .val (.ref r2), .val (.int (1 : Int32)), .val (.ref b20), .val (.int (1 : Int32)), .val (.ref b20), .val (.ref r25), .val (.int (1 : Int32)), .val (.int (1 : Int32)), .val (.ref b20), .val (.ref r31)] [(.ref r31)])) (fun t k => ?_) ?_
    · show Steps p.tables e below (T32.setTop (mkF m 148 #[.val (.int p1), .val (.int p2), .val (.int p3), .val (.ref r1), .val (.ref r2), .val (.int (1 : Int32)), .val (.ref b20), .val (.int (1 : Int32)), .val (.ref b20), .val (.ref r25), .val (.int (1 : Int32)), .val (.int (1 : Int32)), .val (.ref b20), .val (.ref r31)] [(.int (1 : Int32))])) _
      refine XS.ifNo X32.here hx rfl (hb hby at_148) rfl ((if0 _ _).trans (feq (by decide)).1) ?_
      show Steps p.tables e below (T32.setTop (mkF m 151 #[.val (.int p1), .val (.int p2), .val (.int p3), .val (.ref r1), .val (.ref r2), .val (.int (1 : Int32)), .val (.ref b20), .val (.int (1 : Int32)), .val (.ref b20), .val (.ref r25), .val (.int (1 : Int32)), .val (.int (1 : Int32)), .val (.ref b20), .val (.ref r31)] [])) _
      refine XS.aload X32.here hx rfl (hb hby at_151) rfl rfl ?_
      show Steps p.tables e below (T32.setTop (mkF m 153 #[.val (.int p1), .val (.int p2), .val (.int p3), .val (.ref r1), .val (.ref r2), .val (.int (1 : Int32)), .val (.ref b20), .val (.int (1 : Int32)), .val (.ref b20), .val (.ref r25), .val (.int (1 : Int32)), .val (.int (1 : Int32)), .val (.ref b20), .val (.ref r31)] [(.ref r31)])) _
      exact k
    -- pc 153: java/util/Optional.get
    obtain ⟨cq33, kq33, q33a, q33b, q33c⟩ := isOf hZ Kq32 Gq31_0
    obtain ⟨_, _, ⟨T33, L33, k33, n33⟩, -, X33, ⟨Lc33, hQ33, l33, y33, z33⟩, st33⟩ := X32.virtualBack hx (y := (⟨"java/util/Optional", "get", "()Ljava/lang/Object;"⟩ : MethodName)) (z := (⟨"java/util/Optional", "get", "()Ljava/lang/Object;"⟩ : MethodName)) hown (mvT hZ (hw _ (List.mem_of_getElem? (i := 83) rfl))) (mvT hZ (hw _ (List.mem_of_getElem? (i := 84) rfl))) (notFace_of_selects (args := #[]) (mvT hZ (hw _ (List.mem_of_getElem? (i := 86) rfl)))) (mvT hZ (hw _ (List.mem_of_getElem? (i := 86) rfl))) (mvT hZ (hw _ (List.mem_of_getElem? (i := 85) rfl))) (by decide) (backOf (W := 0) (rmOG l Z a0 hw [] r31 r2 T31.heap n0 O Gq31_1) hZ (hw _ (List.mem_of_getElem? (i := 87) rfl)) (hw _ (List.mem_of_getElem? (i := 55) rfl)) (by decide) (by decide)) q33a q33c (g := (mkF m 153 #[.val (.int p1), .val (.int p2), .val (.int p3), .val (.ref r1), .val (.ref r2), .val (.int (1 : Int32)), .val (.ref b20), .val (.int (1 : Int32)), .val (.ref b20), .val (.ref r25), .val (.int (1 : Int32)), .val (.int (1 : Int32)), .val (.ref b20), .val (.ref r31)] [(.ref r31)])) rfl (by rw [hml]; rfl) (Steps.refl _) (argsL := []) (rest := []) (lenOf pd_10 rfl) rfl (by show 2 * 0 + _ ≤ _; exact Nat.le_of_eq rfl) (hb hby at_153) (fun _ hWm => ⟨rfl, Kq32, (by decide : 15 + 0 ≤ _), (by decide : 77 + 0 ≤ _)⟩)
    dsimp only [Pt.U, Pt.locs, Pt.cells, Pt.slots] at X33 l33 y33 z33 st33 hQ33
    subst l33 y33 z33
    obtain ⟨rfl, Nq33, Kq33⟩ := hQ33
    replace N := Fr.app N Nq33
    refine own_go (B := T33.setTop (mkF m 156 #[.val (.int p1), .val (.int p2), .val (.int p3), .val (.ref r1), .val (.ref r2), .val (.int (1 : Int32)), .val (.ref b20), .val (.int (1 : Int32)), .val (.ref b20), .val (.ref r25), .val (.int (1 : Int32)), .val (.int (1 : Int32)), .val (.ref b20), .val (.ref r31)] [(.ref r2)])) (fun t k => st33.trans k) ?_
    obtain ⟨T34, X34, e34, st34⟩ := castY X33 hx hZ hown (hw _ (List.mem_of_getElem? (i := 4) rfl)) Kq33 (Ins.self Gq2_0) (g := (mkF m 156 #[.val (.int p1), .val (.int p2), .val (.int p3), .val (.ref r1), .val (.ref r2), .val (.int (1 : Int32)), .val (.ref b20), .val (.int (1 : Int32)), .val (.ref b20), .val (.ref r25), .val (.int (1 : Int32)), .val (.int (1 : Int32)), .val (.ref b20), .val (.ref r31)] [(.ref r2)])) rfl rfl (hb hby at_156)
    refine own_go (B := T34.setTop (mkF m 159 #[.val (.int p1), .val (.int p2), .val (.int p3), .val (.ref r1), .val (.ref r2), .val (.int (1 : Int32)), .val (.ref b20), .val (.int (1 : Int32)), .val (.ref b20), .val (.ref r25), .val (.int (1 : Int32)), .val (.int (1 : Int32)), .val (.ref b20), .val (.ref r31)] [(.ref r2)])) st34 ?_
    refine own_go (B := T34.setTop (mkF m 161 #[.val (.int p1), .val (.int p2), .val (.int p3), .val (.ref r1), .val (.ref r2), .val (.int (1 : Int32)), .val (.ref b20), .val (.int (1 : Int32)), .val (.ref b20), .val (.ref r25), .val (.int (1 : Int32)), .val (.int (1 : Int32)), .val (.ref b20), .val (.ref r31)] [(.ref r2), (.ref r2)])) (fun t k => ?_) ?_
    · show Steps p.tables e below (T34.setTop (mkF m 159 #[.val (.int p1), .val (.int p2), .val (.int p3), .val (.ref r1), .val (.ref r2), .val (.int (1 : Int32)), .val (.ref b20), .val (.int (1 : Int32)), .val (.ref b20), .val (.ref r25), .val (.int (1 : Int32)), .val (.int (1 : Int32)), .val (.ref b20), .val (.ref r31)] [(.ref r2)])) _
      refine XS.aload X34.here hx rfl (hb hby at_159) rfl rfl ?_
      show Steps p.tables e below (T34.setTop (mkF m 161 #[.val (.int p1), .val (.int p2), .val (.int p3), .val (.ref r1), .val (.ref r2), .val (.int (1 : Int32)), .val (.ref b20), .val (.int (1 : Int32)), .val (.ref b20), .val (.ref r25), .val (.int (1 : Int32)), .val (.int (1 : Int32)), .val (.ref b20), .val (.ref r31)] [(.ref r2), (.ref r2)])) _
      exact k
    -- pc 161: java/lang/String.equals
    obtain ⟨cq35, kq35, q35a, q35b, q35c⟩ := isOf hZ e34 Gq2_0
    obtain ⟨_, _, ⟨T35, L35, k35, n35⟩, -, X35, ⟨Lc35, hQ35, l35, y35, z35⟩, st35⟩ := X34.virtualBack hx (y := (⟨"java/lang/String", "equals", "(Ljava/lang/Object;)Z"⟩ : MethodName)) (z := (⟨"java/lang/String", "equals", "(Ljava/lang/Object;)Z"⟩ : MethodName)) hown (mvT hZ (hw _ (List.mem_of_getElem? (i := 88) rfl))) (mvT hZ (hw _ (List.mem_of_getElem? (i := 89) rfl))) (notFace_of_selects (args := #[]) (mvT hZ (hw _ (List.mem_of_getElem? (i := 91) rfl)))) (mvT hZ (hw _ (List.mem_of_getElem? (i := 91) rfl))) (mvT hZ (hw _ (List.mem_of_getElem? (i := 90) rfl))) (by decide) (backOf (W := 0) (rmEqS l Z a0 hw [] r2 T31.heap n0 O ) hZ (hw _ (List.mem_of_getElem? (i := 92) rfl)) (hw _ (List.mem_of_getElem? (i := 6) rfl)) (by decide) (by decide)) q35a q35c (g := (mkF m 161 #[.val (.int p1), .val (.int p2), .val (.int p3), .val (.ref r1), .val (.ref r2), .val (.int (1 : Int32)), .val (.ref b20), .val (.int (1 : Int32)), .val (.ref b20), .val (.ref r25), .val (.int (1 : Int32)), .val (.int (1 : Int32)), .val (.ref b20), .val (.ref r31)] [(.ref r2), (.ref r2)])) rfl (by rw [hml]; rfl) (Steps.refl _) (argsL := [(.ref r2)]) (rest := []) (lenOf pd_11 rfl) rfl (by show 2 * 0 + _ ≤ _; exact Nat.le_of_eq rfl) (hb hby at_161) (fun _ hWm => ⟨rfl, e34, (by decide : 15 + 0 ≤ _), (by decide : 77 + 0 ≤ _)⟩)
    dsimp only [Pt.U, Pt.locs, Pt.cells, Pt.slots] at X35 l35 y35 z35 st35 hQ35
    subst l35 y35 z35
    obtain ⟨rfl, Nq35, Kq35⟩ := hQ35
    replace N := Fr.app N Nq35
    refine own_go (B := T35.setTop (mkF m 164 #[.val (.int p1), .val (.int p2), .val (.int p3), .val (.ref r1), .val (.ref r2), .val (.int (1 : Int32)), .val (.ref b20), .val (.int (1 : Int32)), .val (.ref b20), .val (.ref r25), .val (.int (1 : Int32)), .val (.int (1 : Int32)), .val (.ref b20), .val (.ref r31)] [(.int (1 : Int32))])) (fun t k => st35.trans k) ?_
    refine own_go (B := T35.setTop (mkF m 176 #[.val (.int p1), .val (.int p2), .val (.int p3), .val (.ref r1), .val (.ref r2), .val (.int (1 : Int32)), .val (.ref b20), .val (.int (1 : Int32)), .val (.ref b20), .val (.ref r25), .val (.int (1 : Int32)), .val (.int (1 : Int32)), .val (.ref b20), .val (.ref r31)] [(.ref b20)])) (fun t k => ?_) ?_
    · show Steps p.tables e below (T35.setTop (mkF m 164 #[.val (.int p1), .val (.int p2), .val (.int p3), .val (.ref r1), .val (.ref r2), .val (.int (1 : Int32)), .val (.ref b20), .val (.int (1 : Int32)), .val (.ref b20), .val (.ref r25), .val (.int (1 : Int32)), .val (.int (1 : Int32)), .val (.ref b20), .val (.ref r31)] [(.int (1 : Int32))])) _
      refine XS.ifNo X35.here hx rfl (hb hby at_164) rfl ((if0 _ _).trans (feq (by decide)).1) ?_
      show Steps p.tables e below (T35.setTop (mkF m 167 #[.val (.int p1), .val (.int p2), .val (.int p3), .val (.ref r1), .val (.ref r2), .val (.int (1 : Int32)), .val (.ref b20), .val (.int (1 : Int32)), .val (.ref b20), .val (.ref r25), .val (.int (1 : Int32)), .val (.int (1 : Int32)), .val (.ref b20), .val (.ref r31)] [])) _
      refine XS.iconst X35.here hx rfl (hb hby at_167) ?_
      show Steps p.tables e below (T35.setTop (mkF m 168 #[.val (.int p1), .val (.int p2), .val (.int p3), .val (.ref r1), .val (.ref r2), .val (.int (1 : Int32)), .val (.ref b20), .val (.int (1 : Int32)), .val (.ref b20), .val (.ref r25), .val (.int (1 : Int32)), .val (.int (1 : Int32)), .val (.ref b20), .val (.ref r31)] [(.int (1 : Int32))])) _
      refine XS.goto X35.here hx rfl (pc0 := 168) (pc' := 172) rfl (hb hby at_168) (by decide) (by decide) ?_
      show Steps p.tables e below (T35.setTop (mkF m 172 #[.val (.int p1), .val (.int p2), .val (.int p3), .val (.ref r1), .val (.ref r2), .val (.int (1 : Int32)), .val (.ref b20), .val (.int (1 : Int32)), .val (.ref b20), .val (.ref r25), .val (.int (1 : Int32)), .val (.int (1 : Int32)), .val (.ref b20), .val (.ref r31)] [(.int (1 : Int32))])) _
      refine XS.istore X35.here hx rfl (hb hby at_172) rfl (l' := #[.val (.int p1), .val (.int p2), .val (.int p3), .val (.ref r1), .val (.ref r2), .val (.int (1 : Int32)), .val (.ref b20), .val (.int (1 : Int32)), .val (.ref b20), .val (.ref r25), .val (.int (1 : Int32)), .val (.int (1 : Int32)), .val (.ref b20), .val (.ref r31)]) rfl ?_
      show Steps p.tables e below (T35.setTop (mkF m 174 #[.val (.int p1), .val (.int p2), .val (.int p3), .val (.ref r1), .val (.ref r2), .val (.int (1 : Int32)), .val (.ref b20), .val (.int (1 : Int32)), .val (.ref b20), .val (.ref r25), .val (.int (1 : Int32)), .val (.int (1 : Int32)), .val (.ref b20), .val (.ref r31)] [])) _
      refine XS.aload X35.here hx rfl (hb hby at_174) rfl rfl ?_
      show Steps p.tables e below (T35.setTop (mkF m 176 #[.val (.int p1), .val (.int p2), .val (.int p3), .val (.ref r1), .val (.ref r2), .val (.int (1 : Int32)), .val (.ref b20), .val (.int (1 : Int32)), .val (.ref b20), .val (.ref r25), .val (.int (1 : Int32)), .val (.int (1 : Int32)), .val (.ref b20), .val (.ref r31)] [(.ref b20)])) _
      exact k
    -- pc 176: com/example/fixity/fixity/engine/AccountRequest.unreadable
    obtain ⟨cq36, kq36, q36a, q36b, q36c⟩ := isOf hZ Kq35 A20
    obtain ⟨_, _, ⟨T36, L36, k36, n36⟩, -, X36, ⟨Lc36, hQ36, l36, y36, z36⟩, st36⟩ := X35.virtualBack hx (y := (⟨"com/example/fixity/fixity/engine/AccountRequest", "unreadable", "()Ljava/util/Optional;"⟩ : MethodName)) (z := (⟨"com/example/fixity/fixity/engine/AccountRequest", "unreadable", "()Ljava/util/Optional;"⟩ : MethodName)) hown (mvT hZ (hw _ (List.mem_of_getElem? (i := 93) rfl))) (mvT hZ (hw _ (List.mem_of_getElem? (i := 94) rfl))) (notFace_of_selects (args := #[]) (mvT hZ (hw _ (List.mem_of_getElem? (i := 96) rfl)))) (mvT hZ (hw _ (List.mem_of_getElem? (i := 96) rfl))) (mvT hZ (hw _ (List.mem_of_getElem? (i := 95) rfl))) (by decide) (backOf (W := 0) (rmG0unreadable l Z a0 hw [] b20 wE T31.heap n0 O Gq30_1 S_E) hZ (hw _ (List.mem_of_getElem? (i := 97) rfl)) (hw _ (List.mem_of_getElem? (i := 39) rfl)) (by decide) (by decide)) q36a q36c (g := (mkF m 176 #[.val (.int p1), .val (.int p2), .val (.int p3), .val (.ref r1), .val (.ref r2), .val (.int (1 : Int32)), .val (.ref b20), .val (.int (1 : Int32)), .val (.ref b20), .val (.ref r25), .val (.int (1 : Int32)), .val (.int (1 : Int32)), .val (.ref b20), .val (.ref r31)] [(.ref b20)])) rfl (by rw [hml]; rfl) (Steps.refl _) (argsL := []) (rest := []) (lenOf pd_7 rfl) rfl (by show 2 * 0 + _ ≤ _; exact Nat.le_of_eq rfl) (hb hby at_176) (fun _ hWm => ⟨rfl, Kq35, (by decide : 15 + 0 ≤ _), (by decide : 77 + 0 ≤ _)⟩)
    dsimp only [Pt.U, Pt.locs, Pt.cells, Pt.slots] at X36 l36 y36 z36 st36 hQ36
    subst l36 y36 z36
    obtain ⟨rfl, Nq36, Kq36⟩ := hQ36
    replace N := Fr.app N Nq36
    refine own_go (B := T36.setTop (mkF m 179 #[.val (.int p1), .val (.int p2), .val (.int p3), .val (.ref r1), .val (.ref r2), .val (.int (1 : Int32)), .val (.ref b20), .val (.int (1 : Int32)), .val (.ref b20), .val (.ref r25), .val (.int (1 : Int32)), .val (.int (1 : Int32)), .val (.ref b20), .val (.ref r31)] [(.ref wE)])) (fun t k => st36.trans k) ?_
    -- pc 179: java/util/Optional.isPresent
    obtain ⟨cq37, kq37, q37a, q37b, q37c⟩ := isOf hZ Kq36 (E_E.ext O.2)
    obtain ⟨_, _, ⟨T37, L37, k37, n37⟩, -, X37, ⟨Lc37, hQ37, l37, y37, z37⟩, st37⟩ := X36.virtualBack hx (y := (⟨"java/util/Optional", "isPresent", "()Z"⟩ : MethodName)) (z := (⟨"java/util/Optional", "isPresent", "()Z"⟩ : MethodName)) hown (mvT hZ (hw _ (List.mem_of_getElem? (i := 58) rfl))) (mvT hZ (hw _ (List.mem_of_getElem? (i := 59) rfl))) (notFace_of_selects (args := #[]) (mvT hZ (hw _ (List.mem_of_getElem? (i := 61) rfl)))) (mvT hZ (hw _ (List.mem_of_getElem? (i := 61) rfl))) (mvT hZ (hw _ (List.mem_of_getElem? (i := 60) rfl))) (by decide) (backOf (W := 0) (rmIP0 l Z a0 hw [] wE T31.heap n0 O (F_E.ext O.2)) hZ (hw _ (List.mem_of_getElem? (i := 62) rfl)) (hw _ (List.mem_of_getElem? (i := 55) rfl)) (by decide) (by decide)) q37a q37c (g := (mkF m 179 #[.val (.int p1), .val (.int p2), .val (.int p3), .val (.ref r1), .val (.ref r2), .val (.int (1 : Int32)), .val (.ref b20), .val (.int (1 : Int32)), .val (.ref b20), .val (.ref r25), .val (.int (1 : Int32)), .val (.int (1 : Int32)), .val (.ref b20), .val (.ref r31)] [(.ref wE)])) rfl (by rw [hml]; rfl) (Steps.refl _) (argsL := []) (rest := []) (lenOf pd_8 rfl) rfl (by show 2 * 0 + _ ≤ _; exact Nat.le_of_eq rfl) (hb hby at_179) (fun _ hWm => ⟨rfl, Kq36, (by decide : 15 + 0 ≤ _), (by decide : 77 + 0 ≤ _)⟩)
    dsimp only [Pt.U, Pt.locs, Pt.cells, Pt.slots] at X37 l37 y37 z37 st37 hQ37
    subst l37 y37 z37
    obtain ⟨rfl, Nq37, Kq37⟩ := hQ37
    replace N := Fr.app N Nq37
    refine own_go (B := T37.setTop (mkF m 182 #[.val (.int p1), .val (.int p2), .val (.int p3), .val (.ref r1), .val (.ref r2), .val (.int (1 : Int32)), .val (.ref b20), .val (.int (1 : Int32)), .val (.ref b20), .val (.ref r25), .val (.int (1 : Int32)), .val (.int (1 : Int32)), .val (.ref b20), .val (.ref r31)] [(.int (0 : Int32))])) (fun t k => st37.trans k) ?_
    refine own_go (B := T37.setTop (mkF m 187 #[.val (.int p1), .val (.int p2), .val (.int p3), .val (.ref r1), .val (.ref r2), .val (.int (1 : Int32)), .val (.ref b20), .val (.int (1 : Int32)), .val (.ref b20), .val (.ref r25), .val (.int (1 : Int32)), .val (.int (1 : Int32)), .val (.ref b20), .val (.ref r31)] [(.ref b20)])) (fun t k => ?_) ?_
    · show Steps p.tables e below (T37.setTop (mkF m 182 #[.val (.int p1), .val (.int p2), .val (.int p3), .val (.ref r1), .val (.ref r2), .val (.int (1 : Int32)), .val (.ref b20), .val (.int (1 : Int32)), .val (.ref b20), .val (.ref r25), .val (.int (1 : Int32)), .val (.int (1 : Int32)), .val (.ref b20), .val (.ref r31)] [(.int (0 : Int32))])) _
      refine XS.ifNo X37.here hx rfl (hb hby at_182) rfl ((if0 _ _).trans (teq (by decide)).2) ?_
      show Steps p.tables e below (T37.setTop (mkF m 185 #[.val (.int p1), .val (.int p2), .val (.int p3), .val (.ref r1), .val (.ref r2), .val (.int (1 : Int32)), .val (.ref b20), .val (.int (1 : Int32)), .val (.ref b20), .val (.ref r25), .val (.int (1 : Int32)), .val (.int (1 : Int32)), .val (.ref b20), .val (.ref r31)] [])) _
      refine XS.aload X37.here hx rfl (hb hby at_185) rfl rfl ?_
      show Steps p.tables e below (T37.setTop (mkF m 187 #[.val (.int p1), .val (.int p2), .val (.int p3), .val (.ref r1), .val (.ref r2), .val (.int (1 : Int32)), .val (.ref b20), .val (.int (1 : Int32)), .val (.ref b20), .val (.ref r25), .val (.int (1 : Int32)), .val (.int (1 : Int32)), .val (.ref b20), .val (.ref r31)] [(.ref b20)])) _
      exact k
    -- pc 187: com/example/fixity/fixity/engine/AccountRequest.disabled
    obtain ⟨cq38, kq38, q38a, q38b, q38c⟩ := isOf hZ Kq37 A20
    obtain ⟨_, _, ⟨T38, L38, k38, n38⟩, -, X38, ⟨Lc38, hQ38, l38, y38, z38⟩, st38⟩ := X37.virtualBack hx (y := (⟨"com/example/fixity/fixity/engine/AccountRequest", "disabled", "()Ljava/util/Optional;"⟩ : MethodName)) (z := (⟨"com/example/fixity/fixity/engine/AccountRequest", "disabled", "()Ljava/util/Optional;"⟩ : MethodName)) hown (mvT hZ (hw _ (List.mem_of_getElem? (i := 98) rfl))) (mvT hZ (hw _ (List.mem_of_getElem? (i := 99) rfl))) (notFace_of_selects (args := #[]) (mvT hZ (hw _ (List.mem_of_getElem? (i := 101) rfl)))) (mvT hZ (hw _ (List.mem_of_getElem? (i := 101) rfl))) (mvT hZ (hw _ (List.mem_of_getElem? (i := 100) rfl))) (by decide) (backOf (W := 0) (rmG0disabled l Z a0 hw [] b20 wE T31.heap n0 O Gq30_2 S_E) hZ (hw _ (List.mem_of_getElem? (i := 102) rfl)) (hw _ (List.mem_of_getElem? (i := 39) rfl)) (by decide) (by decide)) q38a q38c (g := (mkF m 187 #[.val (.int p1), .val (.int p2), .val (.int p3), .val (.ref r1), .val (.ref r2), .val (.int (1 : Int32)), .val (.ref b20), .val (.int (1 : Int32)), .val (.ref b20), .val (.ref r25), .val (.int (1 : Int32)), .val (.int (1 : Int32)), .val (.ref b20), .val (.ref r31)] [(.ref b20)])) rfl (by rw [hml]; rfl) (Steps.refl _) (argsL := []) (rest := []) (lenOf pd_7 rfl) rfl (by show 2 * 0 + _ ≤ _; exact Nat.le_of_eq rfl) (hb hby at_187) (fun _ hWm => ⟨rfl, Kq37, (by decide : 15 + 0 ≤ _), (by decide : 77 + 0 ≤ _)⟩)
    dsimp only [Pt.U, Pt.locs, Pt.cells, Pt.slots] at X38 l38 y38 z38 st38 hQ38
    subst l38 y38 z38
    obtain ⟨rfl, Nq38, Kq38⟩ := hQ38
    replace N := Fr.app N Nq38
    refine own_go (B := T38.setTop (mkF m 190 #[.val (.int p1), .val (.int p2), .val (.int p3), .val (.ref r1), .val (.ref r2), .val (.int (1 : Int32)), .val (.ref b20), .val (.int (1 : Int32)), .val (.ref b20), .val (.ref r25), .val (.int (1 : Int32)), .val (.int (1 : Int32)), .val (.ref b20), .val (.ref r31)] [(.ref wE)])) (fun t k => st38.trans k) ?_
    -- pc 190: java/util/Optional.isPresent
    obtain ⟨cq39, kq39, q39a, q39b, q39c⟩ := isOf hZ Kq38 (E_E.ext O.2)
    obtain ⟨_, _, ⟨T39, L39, k39, n39⟩, -, X39, ⟨Lc39, hQ39, l39, y39, z39⟩, st39⟩ := X38.virtualBack hx (y := (⟨"java/util/Optional", "isPresent", "()Z"⟩ : MethodName)) (z := (⟨"java/util/Optional", "isPresent", "()Z"⟩ : MethodName)) hown (mvT hZ (hw _ (List.mem_of_getElem? (i := 58) rfl))) (mvT hZ (hw _ (List.mem_of_getElem? (i := 59) rfl))) (notFace_of_selects (args := #[]) (mvT hZ (hw _ (List.mem_of_getElem? (i := 61) rfl)))) (mvT hZ (hw _ (List.mem_of_getElem? (i := 61) rfl))) (mvT hZ (hw _ (List.mem_of_getElem? (i := 60) rfl))) (by decide) (backOf (W := 0) (rmIP0 l Z a0 hw [] wE T31.heap n0 O (F_E.ext O.2)) hZ (hw _ (List.mem_of_getElem? (i := 62) rfl)) (hw _ (List.mem_of_getElem? (i := 55) rfl)) (by decide) (by decide)) q39a q39c (g := (mkF m 190 #[.val (.int p1), .val (.int p2), .val (.int p3), .val (.ref r1), .val (.ref r2), .val (.int (1 : Int32)), .val (.ref b20), .val (.int (1 : Int32)), .val (.ref b20), .val (.ref r25), .val (.int (1 : Int32)), .val (.int (1 : Int32)), .val (.ref b20), .val (.ref r31)] [(.ref wE)])) rfl (by rw [hml]; rfl) (Steps.refl _) (argsL := []) (rest := []) (lenOf pd_8 rfl) rfl (by show 2 * 0 + _ ≤ _; exact Nat.le_of_eq rfl) (hb hby at_190) (fun _ hWm => ⟨rfl, Kq38, (by decide : 15 + 0 ≤ _), (by decide : 77 + 0 ≤ _)⟩)
    dsimp only [Pt.U, Pt.locs, Pt.cells, Pt.slots] at X39 l39 y39 z39 st39 hQ39
    subst l39 y39 z39
    obtain ⟨rfl, Nq39, Kq39⟩ := hQ39
    replace N := Fr.app N Nq39
    refine own_go (B := T39.setTop (mkF m 193 #[.val (.int p1), .val (.int p2), .val (.int p3), .val (.ref r1), .val (.ref r2), .val (.int (1 : Int32)), .val (.ref b20), .val (.int (1 : Int32)), .val (.ref b20), .val (.ref r25), .val (.int (1 : Int32)), .val (.int (1 : Int32)), .val (.ref b20), .val (.ref r31)] [(.int (0 : Int32))])) (fun t k => st39.trans k) ?_
    refine own_go (B := T39.setTop (mkF m 198 #[.val (.int p1), .val (.int p2), .val (.int p3), .val (.ref r1), .val (.ref r2), .val (.int (1 : Int32)), .val (.ref b20), .val (.int (1 : Int32)), .val (.ref b20), .val (.ref r25), .val (.int (1 : Int32)), .val (.int (1 : Int32)), .val (.ref b20), .val (.ref r31)] [(.ref b20)])) (fun t k => ?_) ?_
    · show Steps p.tables e below (T39.setTop (mkF m 193 #[.val (.int p1), .val (.int p2), .val (.int p3), .val (.ref r1), .val (.ref r2), .val (.int (1 : Int32)), .val (.ref b20), .val (.int (1 : Int32)), .val (.ref b20), .val (.ref r25), .val (.int (1 : Int32)), .val (.int (1 : Int32)), .val (.ref b20), .val (.ref r31)] [(.int (0 : Int32))])) _
      refine XS.ifNo X39.here hx rfl (hb hby at_193) rfl ((if0 _ _).trans (teq (by decide)).2) ?_
      show Steps p.tables e below (T39.setTop (mkF m 196 #[.val (.int p1), .val (.int p2), .val (.int p3), .val (.ref r1), .val (.ref r2), .val (.int (1 : Int32)), .val (.ref b20), .val (.int (1 : Int32)), .val (.ref b20), .val (.ref r25), .val (.int (1 : Int32)), .val (.int (1 : Int32)), .val (.ref b20), .val (.ref r31)] [])) _
      refine XS.aload X39.here hx rfl (hb hby at_196) rfl rfl ?_
      show Steps p.tables e below (T39.setTop (mkF m 198 #[.val (.int p1), .val (.int p2), .val (.int p3), .val (.ref r1), .val (.ref r2), .val (.int (1 : Int32)), .val (.ref b20), .val (.int (1 : Int32)), .val (.ref b20), .val (.ref r25), .val (.int (1 : Int32)), .val (.int (1 : Int32)), .val (.ref b20), .val (.ref r31)] [(.ref b20)])) _
      exact k
    -- pc 198: com/example/fixity/fixity/engine/AccountRequest.workflowRoles
    obtain ⟨cq40, kq40, q40a, q40b, q40c⟩ := isOf hZ Kq39 A20
    obtain ⟨_, _, ⟨T40, L40, k40, n40⟩, -, X40, ⟨Lc40, hQ40, l40, y40, z40⟩, st40⟩ := X39.virtualBack hx (y := (⟨"com/example/fixity/fixity/engine/AccountRequest", "workflowRoles", "()Ljava/util/Optional;"⟩ : MethodName)) (z := (⟨"com/example/fixity/fixity/engine/AccountRequest", "workflowRoles", "()Ljava/util/Optional;"⟩ : MethodName)) hown (mvT hZ (hw _ (List.mem_of_getElem? (i := 105) rfl))) (mvT hZ (hw _ (List.mem_of_getElem? (i := 106) rfl))) (notFace_of_selects (args := #[]) (mvT hZ (hw _ (List.mem_of_getElem? (i := 108) rfl)))) (mvT hZ (hw _ (List.mem_of_getElem? (i := 108) rfl))) (mvT hZ (hw _ (List.mem_of_getElem? (i := 107) rfl))) (by decide) (backOf (W := 0) (rmG0workflowRoles l Z a0 hw [] b20 wE T31.heap n0 O Gq30_3 S_E) hZ (hw _ (List.mem_of_getElem? (i := 109) rfl)) (hw _ (List.mem_of_getElem? (i := 39) rfl)) (by decide) (by decide)) q40a q40c (g := (mkF m 198 #[.val (.int p1), .val (.int p2), .val (.int p3), .val (.ref r1), .val (.ref r2), .val (.int (1 : Int32)), .val (.ref b20), .val (.int (1 : Int32)), .val (.ref b20), .val (.ref r25), .val (.int (1 : Int32)), .val (.int (1 : Int32)), .val (.ref b20), .val (.ref r31)] [(.ref b20)])) rfl (by rw [hml]; rfl) (Steps.refl _) (argsL := []) (rest := []) (lenOf pd_7 rfl) rfl (by show 2 * 0 + _ ≤ _; exact Nat.le_of_eq rfl) (hb hby at_198) (fun _ hWm => ⟨rfl, Kq39, (by decide : 15 + 0 ≤ _), (by decide : 77 + 0 ≤ _)⟩)
    dsimp only [Pt.U, Pt.locs, Pt.cells, Pt.slots] at X40 l40 y40 z40 st40 hQ40
    subst l40 y40 z40
    obtain ⟨rfl, Nq40, Kq40⟩ := hQ40
    replace N := Fr.app N Nq40
    refine own_go (B := T40.setTop (mkF m 201 #[.val (.int p1), .val (.int p2), .val (.int p3), .val (.ref r1), .val (.ref r2), .val (.int (1 : Int32)), .val (.ref b20), .val (.int (1 : Int32)), .val (.ref b20), .val (.ref r25), .val (.int (1 : Int32)), .val (.int (1 : Int32)), .val (.ref b20), .val (.ref r31)] [(.ref wE)])) (fun t k => st40.trans k) ?_
    -- pc 201: java/util/Optional.isPresent
    obtain ⟨cq41, kq41, q41a, q41b, q41c⟩ := isOf hZ Kq40 (E_E.ext O.2)
    obtain ⟨_, _, ⟨T41, L41, k41, n41⟩, -, X41, ⟨Lc41, hQ41, l41, y41, z41⟩, st41⟩ := X40.virtualBack hx (y := (⟨"java/util/Optional", "isPresent", "()Z"⟩ : MethodName)) (z := (⟨"java/util/Optional", "isPresent", "()Z"⟩ : MethodName)) hown (mvT hZ (hw _ (List.mem_of_getElem? (i := 58) rfl))) (mvT hZ (hw _ (List.mem_of_getElem? (i := 59) rfl))) (notFace_of_selects (args := #[]) (mvT hZ (hw _ (List.mem_of_getElem? (i := 61) rfl)))) (mvT hZ (hw _ (List.mem_of_getElem? (i := 61) rfl))) (mvT hZ (hw _ (List.mem_of_getElem? (i := 60) rfl))) (by decide) (backOf (W := 0) (rmIP0 l Z a0 hw [] wE T31.heap n0 O (F_E.ext O.2)) hZ (hw _ (List.mem_of_getElem? (i := 62) rfl)) (hw _ (List.mem_of_getElem? (i := 55) rfl)) (by decide) (by decide)) q41a q41c (g := (mkF m 201 #[.val (.int p1), .val (.int p2), .val (.int p3), .val (.ref r1), .val (.ref r2), .val (.int (1 : Int32)), .val (.ref b20), .val (.int (1 : Int32)), .val (.ref b20), .val (.ref r25), .val (.int (1 : Int32)), .val (.int (1 : Int32)), .val (.ref b20), .val (.ref r31)] [(.ref wE)])) rfl (by rw [hml]; rfl) (Steps.refl _) (argsL := []) (rest := []) (lenOf pd_8 rfl) rfl (by show 2 * 0 + _ ≤ _; exact Nat.le_of_eq rfl) (hb hby at_201) (fun _ hWm => ⟨rfl, Kq40, (by decide : 15 + 0 ≤ _), (by decide : 77 + 0 ≤ _)⟩)
    dsimp only [Pt.U, Pt.locs, Pt.cells, Pt.slots] at X41 l41 y41 z41 st41 hQ41
    subst l41 y41 z41
    obtain ⟨rfl, Nq41, Kq41⟩ := hQ41
    replace N := Fr.app N Nq41
    refine own_go (B := T41.setTop (mkF m 204 #[.val (.int p1), .val (.int p2), .val (.int p3), .val (.ref r1), .val (.ref r2), .val (.int (1 : Int32)), .val (.ref b20), .val (.int (1 : Int32)), .val (.ref b20), .val (.ref r25), .val (.int (1 : Int32)), .val (.int (1 : Int32)), .val (.ref b20), .val (.ref r31)] [(.int (0 : Int32))])) (fun t k => st41.trans k) ?_
    refine own_go (B := T41.setTop (mkF m 239 #[.val (.int p1), .val (.int p2), .val (.int p3), .val (.ref r1), .val (.ref r2), .val (.int (1 : Int32)), .val (.ref b20), .val (.int (1 : Int32)), .val (.ref b20), .val (.ref r25), .val (.int (1 : Int32)), .val (.int (1 : Int32)), .val (.int (1 : Int32)), .val (.ref r31)] [(.int (1 : Int32))])) (fun t k => ?_) ?_
    · show Steps p.tables e below (T41.setTop (mkF m 204 #[.val (.int p1), .val (.int p2), .val (.int p3), .val (.ref r1), .val (.ref r2), .val (.int (1 : Int32)), .val (.ref b20), .val (.int (1 : Int32)), .val (.ref b20), .val (.ref r25), .val (.int (1 : Int32)), .val (.int (1 : Int32)), .val (.ref b20), .val (.ref r31)] [(.int (0 : Int32))])) _
      refine XS.ifNo X41.here hx rfl (hb hby at_204) rfl ((if0 _ _).trans (teq (by decide)).2) ?_
      show Steps p.tables e below (T41.setTop (mkF m 207 #[.val (.int p1), .val (.int p2), .val (.int p3), .val (.ref r1), .val (.ref r2), .val (.int (1 : Int32)), .val (.ref b20), .val (.int (1 : Int32)), .val (.ref b20), .val (.ref r25), .val (.int (1 : Int32)), .val (.int (1 : Int32)), .val (.ref b20), .val (.ref r31)] [])) _
      refine XS.iconst X41.here hx rfl (hb hby at_207) ?_
      show Steps p.tables e below (T41.setTop (mkF m 208 #[.val (.int p1), .val (.int p2), .val (.int p3), .val (.ref r1), .val (.ref r2), .val (.int (1 : Int32)), .val (.ref b20), .val (.int (1 : Int32)), .val (.ref b20), .val (.ref r25), .val (.int (1 : Int32)), .val (.int (1 : Int32)), .val (.ref b20), .val (.ref r31)] [(.int (1 : Int32))])) _
      refine XS.goto X41.here hx rfl (pc0 := 208) (pc' := 212) rfl (hb hby at_208) (by decide) (by decide) ?_
      show Steps p.tables e below (T41.setTop (mkF m 212 #[.val (.int p1), .val (.int p2), .val (.int p3), .val (.ref r1), .val (.ref r2), .val (.int (1 : Int32)), .val (.ref b20), .val (.int (1 : Int32)), .val (.ref b20), .val (.ref r25), .val (.int (1 : Int32)), .val (.int (1 : Int32)), .val (.ref b20), .val (.ref r31)] [(.int (1 : Int32))])) _
      refine XS.istore X41.here hx rfl (hb hby at_212) rfl (l' := #[.val (.int p1), .val (.int p2), .val (.int p3), .val (.ref r1), .val (.ref r2), .val (.int (1 : Int32)), .val (.ref b20), .val (.int (1 : Int32)), .val (.ref b20), .val (.ref r25), .val (.int (1 : Int32)), .val (.int (1 : Int32)), .val (.int (1 : Int32)), .val (.ref r31)]) rfl ?_
      show Steps p.tables e below (T41.setTop (mkF m 214 #[.val (.int p1), .val (.int p2), .val (.int p3), .val (.ref r1), .val (.ref r2), .val (.int (1 : Int32)), .val (.ref b20), .val (.int (1 : Int32)), .val (.ref b20), .val (.ref r25), .val (.int (1 : Int32)), .val (.int (1 : Int32)), .val (.int (1 : Int32)), .val (.ref r31)] [])) _
      refine XS.iload X41.here hx rfl (hb hby at_214) rfl ?_
      show Steps p.tables e below (T41.setTop (mkF m 216 #[.val (.int p1), .val (.int p2), .val (.int p3), .val (.ref r1), .val (.ref r2), .val (.int (1 : Int32)), .val (.ref b20), .val (.int (1 : Int32)), .val (.ref b20), .val (.ref r25), .val (.int (1 : Int32)), .val (.int (1 : Int32)), .val (.int (1 : Int32)), .val (.ref r31)] [(.int (1 : Int32))])) _
      refine XS.ifNo X41.here hx rfl (hb hby at_216) rfl ((if0 _ _).trans (feq (by decide)).1) ?_
      show Steps p.tables e below (T41.setTop (mkF m 219 #[.val (.int p1), .val (.int p2), .val (.int p3), .val (.ref r1), .val (.ref r2), .val (.int (1 : Int32)), .val (.ref b20), .val (.int (1 : Int32)), .val (.ref b20), .val (.ref r25), .val (.int (1 : Int32)), .val (.int (1 : Int32)), .val (.int (1 : Int32)), .val (.ref r31)] [])) _
      refine XS.iload X41.here hx rfl (hb hby at_219) rfl ?_
      show Steps p.tables e below (T41.setTop (mkF m 221 #[.val (.int p1), .val (.int p2), .val (.int p3), .val (.ref r1), .val (.ref r2), .val (.int (1 : Int32)), .val (.ref b20), .val (.int (1 : Int32)), .val (.ref b20), .val (.ref r25), .val (.int (1 : Int32)), .val (.int (1 : Int32)), .val (.int (1 : Int32)), .val (.ref r31)] [(.int (1 : Int32))])) _
      refine XS.ifNo X41.here hx rfl (hb hby at_221) rfl ((if0 _ _).trans (feq (by decide)).1) ?_
      show Steps p.tables e below (T41.setTop (mkF m 224 #[.val (.int p1), .val (.int p2), .val (.int p3), .val (.ref r1), .val (.ref r2), .val (.int (1 : Int32)), .val (.ref b20), .val (.int (1 : Int32)), .val (.ref b20), .val (.ref r25), .val (.int (1 : Int32)), .val (.int (1 : Int32)), .val (.int (1 : Int32)), .val (.ref r31)] [])) _
      refine XS.iload X41.here hx rfl (hb hby at_224) rfl ?_
      show Steps p.tables e below (T41.setTop (mkF m 226 #[.val (.int p1), .val (.int p2), .val (.int p3), .val (.ref r1), .val (.ref r2), .val (.int (1 : Int32)), .val (.ref b20), .val (.int (1 : Int32)), .val (.ref b20), .val (.ref r25), .val (.int (1 : Int32)), .val (.int (1 : Int32)), .val (.int (1 : Int32)), .val (.ref r31)] [(.int (1 : Int32))])) _
      refine XS.ifNo X41.here hx rfl (hb hby at_226) rfl ((if0 _ _).trans (feq (by decide)).1) ?_
      show Steps p.tables e below (T41.setTop (mkF m 229 #[.val (.int p1), .val (.int p2), .val (.int p3), .val (.ref r1), .val (.ref r2), .val (.int (1 : Int32)), .val (.ref b20), .val (.int (1 : Int32)), .val (.ref b20), .val (.ref r25), .val (.int (1 : Int32)), .val (.int (1 : Int32)), .val (.int (1 : Int32)), .val (.ref r31)] [])) _
      refine XS.iload X41.here hx rfl (hb hby at_229) rfl ?_
      show Steps p.tables e below (T41.setTop (mkF m 231 #[.val (.int p1), .val (.int p2), .val (.int p3), .val (.ref r1), .val (.ref r2), .val (.int (1 : Int32)), .val (.ref b20), .val (.int (1 : Int32)), .val (.ref b20), .val (.ref r25), .val (.int (1 : Int32)), .val (.int (1 : Int32)), .val (.int (1 : Int32)), .val (.ref r31)] [(.int (1 : Int32))])) _
      refine XS.ifNo X41.here hx rfl (hb hby at_231) rfl ((if0 _ _).trans (feq (by decide)).1) ?_
      show Steps p.tables e below (T41.setTop (mkF m 234 #[.val (.int p1), .val (.int p2), .val (.int p3), .val (.ref r1), .val (.ref r2), .val (.int (1 : Int32)), .val (.ref b20), .val (.int (1 : Int32)), .val (.ref b20), .val (.ref r25), .val (.int (1 : Int32)), .val (.int (1 : Int32)), .val (.int (1 : Int32)), .val (.ref r31)] [])) _
      refine XS.iconst X41.here hx rfl (hb hby at_234) ?_
      show Steps p.tables e below (T41.setTop (mkF m 235 #[.val (.int p1), .val (.int p2), .val (.int p3), .val (.ref r1), .val (.ref r2), .val (.int (1 : Int32)), .val (.ref b20), .val (.int (1 : Int32)), .val (.ref b20), .val (.ref r25), .val (.int (1 : Int32)), .val (.int (1 : Int32)), .val (.int (1 : Int32)), .val (.ref r31)] [(.int (1 : Int32))])) _
      refine XS.goto X41.here hx rfl (pc0 := 235) (pc' := 239) rfl (hb hby at_235) (by decide) (by decide) ?_
      show Steps p.tables e below (T41.setTop (mkF m 239 #[.val (.int p1), .val (.int p2), .val (.int p3), .val (.ref r1), .val (.ref r2), .val (.int (1 : Int32)), .val (.ref b20), .val (.int (1 : Int32)), .val (.ref b20), .val (.ref r25), .val (.int (1 : Int32)), .val (.int (1 : Int32)), .val (.int (1 : Int32)), .val (.ref r31)] [(.int (1 : Int32))])) _
      exact k
    obtain ⟨fs, hr, hrun, hended, hEnd⟩ := X41.leaveW hS (by rw [Kq41]; exact hk) (v := some (.int (1 : Int32))) (fun h => by rw [Bd.returns] at h; cases h)
    refine ⟨_, _, retN X41 hx (t := .boolean) Bd.returns (by simp) (hb hby at_239) hr, hfin _ _ ⟨hrun, hended, _, _, rfl, ?_, hEnd.1, hEnd.2.1, hEnd.2.2.1, hEnd.2.2.2.mono (by decide) (by decide)⟩⟩
    show Q0 Z p1 p2 p3 wE zc h0 n0 _ T41.heap _
    rw [Kq41]
    exact ⟨rfl, N⟩
set_option maxRecDepth 65536 in
set_option maxHeartbeats 40000000 in
theorem comes_1 {Post : Tables → Env → Array Value → State → Outcome → State → Prop} (hpost : ∀ tb e args s v u, (limb_1_1.after args s (.returned v) u = true ∧ limb_1_2.after args s (.returned v) u = true ∧ True) → ReturnedEndW s (.returned v) u (Jvm.fieldLocs frame_1_writes args s ++ Jvm.arrayLocs frame_1_arrays args s ++ Jvm.staticLocs frame_1_statics s) 32 2240 → Post tb e args s (.returned v) u) :
    ArmFor flags0 classFile x code maxLocals ret World_1 tables_1 room_1 Calls_1 rest_1 Pre_1 Post := by
  intro l hfl _ _ p e ha hc hk s m args below hf hA hF happ hP
  obtain ⟨hcalls, hrest, hpre⟩ := hP
  obtain ⟨-, -, -, hnamed, -, -, -, hat⟩ := (Spec.applies_iff hf).mp happ
  obtain ⟨hg, hn⟩ := and_e (Cond.before_iff.mp (show (Jvm.Cond.and given_1 narrow_1).before args s = true from hpre))
  obtain ⟨gc, gr0⟩ := and_e hg
  obtain ⟨gi0, gr1⟩ := and_e gr0
  obtain ⟨gi1, gr2⟩ := and_e gr1
  have gi2 := gr2
  obtain ⟨w0, w1, w2, rfl⟩ : ∃ w0 w1 w2 : Value, args = #[w0, w1, w2] := by
    have hs : args.size = 3 := by simpa [Cond.value, given_1] using gc
    obtain ⟨L⟩ := args
    match L, hs with
    | [w0, w1, w2], _ => exact ⟨w0, w1, w2, rfl⟩
  have hw := fun d (hd : d ∈ tables_1) => atoms_spec (ws := Jvm.Cond.code x code maxLocals ret :: tables_1) hat d (List.mem_cons_of_mem _ hd)
  have hfit : Fit s := fun {y c} hc i hi => by
    obtain ⟨ha, rfl⟩ := Array.getElem?_eq_some_iff.mp hc
    have q := List.all_eq_true.mp ((Array.all_eq_true_iff_forall_mem.mp hF) _ (Array.getElem_mem ha)) i (List.mem_range.mpr hi)
    simpa [Array.getElem?_eq_getElem hi] using q
  obtain ⟨i0, ei0⟩ := is_v gi0
  obtain rfl : w0 = (.int i0) := Option.some.inj ei0
  obtain ⟨i1, ei1⟩ := is_v gi1
  obtain rfl : w1 = (.int i1) := Option.some.inj ei1
  obtain ⟨i2, ei2⟩ := is_v gi2
  obtain rfl : w2 = (.int i2) := Option.some.inj ei2
  obtain ⟨hsets, hown0⟩ := atoms_of _ (rest_1_c_eq ▸ (show rest_1_c.before _ s = true from hrest))
  obtain ⟨wE, evE⟩ := exa_v (Cond.before_iff.mp (hsets _ (List.mem_of_getElem? (i := 11) rfl)))
  have S_E := Sta.start evE (Or.inl (hsets _ (List.mem_of_getElem? (i := 10) rfl)))
  have E_E := Exa.start evE (Cond.before_iff.mp (hsets _ (List.mem_of_getElem? (i := 11) rfl)))
  have F_E := Fld.start ((fld_at evE).symm.trans (null_v (Cond.before_iff.mp (hsets _ (List.mem_of_getElem? (i := 12) rfl)))))
  obtain ⟨zc, ezc⟩ := is_v (Cond.before_iff.mp (hsets _ (List.mem_of_getElem? (i := 1) rfl)))
  have S_C := Sta.start ezc (Or.inl (hsets _ (List.mem_of_getElem? (i := 0) rfl)))
  have hcs : ¬ zc = (0 : Int32) := by
    have q := not_v (Cond.before_iff.mp (hsets _ (List.mem_of_getElem? (i := 2) rfl)))
    have r := gotF (Jvm.Cond.eq_ints ezc (Term.int_eval 0)) q
    exact r
  have hcH : Jvm.Lit.constHeld s "java/lang/String" 7 := hcalls.1 ("java/lang/String", 7) (by decide)
  have hcw : Jvm.Lit.compactW.before _ s = true := (hsets _ (List.mem_of_getElem? (i := 2) rfl))
  obtain ⟨n, o, h1, h2, h3, _, L, rfl, ⟨rfl, N⟩, hq⟩ := rm0 l s _ hw tables_1 i0 i1 i2 wE zc s.heap s.heap.size (Old.start s) S_E E_E F_E S_C hcs hcH hcw p e ha hc hk s m _ below hf ((Spec.applies_iff_loose hf).mp happ).1 ⟨rfl, State.Warmed39.refl s, rfl, Or.inl IB.start⟩ trivial
  refine ⟨n, _, h1, h2, h3, hpost _ _ _ _ _ _ ⟨Cond.after_iff.mpr rfl, Cond.after_iff.mpr (eq_i res_at (Term.int_eval (1)) rfl), trivial⟩ ⟨hq.1, hq.2.1, hq.2.2.1, (hq.2.2.2.sift fun y hy => Or.inr (N y hy)).mono (by decide) (by decide)⟩⟩
theorem main_1_1 : Claimed_1_1 := comes_1 fun _ _ _ _ _ _ h hF => ⟨h.1, hF⟩
theorem main_1_2 : Claimed_1_2 := comes_1 fun _ _ _ _ _ _ h hF => ⟨h.2.1, hF⟩
end Jvm.Pilot.@@N@@
namespace Jvm.Pilot.@@N@@
open Jvm Jvm.ClassFile Sem Op Lib Jvm.Free Jvm.Stand Jvm.Pilot.@@N@@.Jvm.D
/-! MADE BY PROGRAM (witnessworld.py) out of the Statement's table words and the real class files: 22 classes; the members and pool entries that the words name. The judged class is class 1, her method 1. -/
namespace start1
open Jvm.ClassFile
def u (s : String) : CpInfo := .utf8 (stringToUtf16 s)
/-- a pool by its gaps: so many unusable entries, then the entry; so many at the end -/
def gap : Nat → List CpInfo → List CpInfo
  | 0, r => r
  | n + 1, r => .unusable :: gap n r
def poolList (es : List (Nat × CpInfo)) (last : Nat) : List CpInfo := es.foldr (fun e r => gap e.1 (e.2 :: r)) (gap last [])
def pool (es : List (Nat × CpInfo)) (last : Nat) : Array CpInfo := ⟨poolList es last⟩
def fileOf (pool : Array CpInfo) (this : Nat) (attrs : Array Attribute := #[]) (ms : Array MethodInfo := #[]) (fl : Nat := 33) (sup : Nat := 0) (ifs : Array Nat := #[]) (fds : Array FieldInfo := #[]) : ClassFile where
  minorVersion := 0
  majorVersion := 65
  constantPool := pool
  accessFlags := fl
  thisClass := this
  superClass := sup
  interfaces := ifs
  fields := fds
  methods := ms
  attributes := attrs
def plain (name : String) (sup : Option ClassId) : Class where
  name := name
  kind := .ordinary
  loader := none
  accessFlags := 33
  super := sup
  interfaces := #[]
  cf := none
  fields := #[]
  methods := #[]
  instanceTypes := #[]
  staticTypes := #[]
  resolved := #[]
  callSites := []
  init := .initialized
  statics := none
  mirror := none

def pool0 : Array CpInfo := pool [(5, u "<init>"), (0, u "()V"), (1, .class_ 10), (1, u "java/lang/Object")] 113

def k0c0 : Code := { maxStack := 0, maxLocals := 1, code := object_method_1_code, exceptionTable := #[], attributes := #[] }
def k0m0 : Method := { name := "<init>", desc := "()V", sig := { parameters := [], returnType := none }, accessFlags := 1, code := some k0c0 }
/-- java/lang/Object -/
def k0 : Class := { plain "java/lang/Object" none with
  accessFlags := 33
  interfaces := #[]
  cf := some (fileOf pool0 8 #[] #[{ accessFlags := 1, nameIndex := 5, descriptorIndex := 6, attributes := #[] }] 33 0 #[] #[])
  fields := #[]
  methods := #[k0m0]
  instanceTypes := #[]
  staticTypes := #[]
  resolved := Array.replicate 124 none
  statics := none }

def pool1 : Array CpInfo := pool [(2, .class_ 4), (0, .nameAndType 5 6), (0, u "java/lang/Object"), (0, u "<init>"), (0, u "()V"), (0, .methodref 8 9), (0, .class_ 10), (0, .nameAndType 11 12), (0, u "com/example/fixity/fixity/engine/AccountRequestRolePinLaw"), (0, u "mk"), (0, u "(II)Ljava/lang/String;"), (0, .class_ 14), (0, u "com/example/fixity/fixity/engine/AccountRequest"), (0, .methodref 13 3), (0, .methodref 13 17), (0, .nameAndType 18 19), (0, u "role"), (0, u "()Ljava/util/Optional;"), (0, .methodref 21 22), (0, .class_ 23), (0, .nameAndType 24 25), (0, u "java/util/Optional"), (0, u "isPresent"), (0, u "()Z"), (0, .methodref 13 27), (0, .nameAndType 18 28), (0, u "(Ljava/lang/String;)Lcom/example/fixity/fixity/engine/AccountRequest;"), (0, .methodref 21 30), (0, .nameAndType 31 32), (0, u "get"), (0, u "()Ljava/lang/Object;"), (0, .class_ 34), (0, u "java/lang/String"), (0, .methodref 33 36), (0, .nameAndType 37 38), (0, u "equals"), (0, u "(Ljava/lang/Object;)Z"), (0, .methodref 13 40), (0, .nameAndType 41 19), (0, u "unreadable"), (0, .methodref 13 43), (0, .nameAndType 44 19), (0, u "disabled"), (0, .methodref 13 46), (0, .nameAndType 47 19), (0, u "workflowRoles"), (0, .methodref 33 49), (0, .nameAndType 5 50), (0, u "([C)V"), (2, u "law"), (0, u "(III)Z")] 3

def k1m0 : Method := { name := "<init>", desc := "()V", sig := { parameters := [], returnType := none }, accessFlags := 1, code := none }
def k1c1 : Code := { maxStack := 3, maxLocals := 14, code := code, exceptionTable := #[], attributes := #[] }
def k1m1 : Method := { name := "law", desc := "(III)Z", sig := { parameters := [.int, .int, .int], returnType := some .boolean }, accessFlags := 9, code := some k1c1 }
def k1c2 : Code := { maxStack := 6, maxLocals := 5, code := method_3_code, exceptionTable := #[], attributes := #[] }
def k1m2 : Method := { name := "mk", desc := "(II)Ljava/lang/String;", sig := { parameters := [.int, .int], returnType := some (.object "java/lang/String") }, accessFlags := 10, code := some k1c2 }
/-- com/example/fixity/fixity/engine/AccountRequestRolePinLaw -/
def k1 : Class := { plain "com/example/fixity/fixity/engine/AccountRequestRolePinLaw" (some 0) with
  accessFlags := 49
  interfaces := #[]
  cf := some (fileOf pool1 8 #[] #[{ accessFlags := 1, nameIndex := 5, descriptorIndex := 6, attributes := #[] }, { accessFlags := 9, nameIndex := 53, descriptorIndex := 54, attributes := #[] }, { accessFlags := 10, nameIndex := 11, descriptorIndex := 12, attributes := #[] }] 49 2 #[] #[])
  fields := #[]
  methods := #[k1m0, k1m1, k1m2]
  instanceTypes := #[]
  staticTypes := #[]
  resolved := Array.replicate 58 none
  statics := none }

def pool2 : Array CpInfo := pool [(1, .class_ 2), (0, u "java/io/Serializable"), (0, .class_ 4), (0, u "java/lang/Object")] 2

/-- java/io/Serializable -/
def k2 : Class := { plain "java/io/Serializable" (some 0) with
  accessFlags := 1537
  interfaces := #[]
  cf := some (fileOf pool2 1 #[] #[] 1537 3 #[] #[])
  fields := #[]
  methods := #[]
  instanceTypes := #[]
  staticTypes := #[]
  resolved := Array.replicate 7 none
  statics := none }

def pool3 : Array CpInfo := pool [(1, .class_ 2), (0, u "java/lang/Comparable"), (0, .class_ 4), (0, u "java/lang/Object")] 7

/-- java/lang/Comparable -/
def k3 : Class := { plain "java/lang/Comparable" (some 0) with
  accessFlags := 1537
  interfaces := #[]
  cf := some (fileOf pool3 1 #[] #[] 1537 3 #[] #[])
  fields := #[]
  methods := #[]
  instanceTypes := #[]
  staticTypes := #[]
  resolved := Array.replicate 12 none
  statics := none }

def pool4 : Array CpInfo := pool [(2, .class_ 4), (1, u "java/lang/CharSequence"), (42, .class_ 48), (0, u "java/lang/CharSequence$1CodePointIterator"), (10, .class_ 60), (0, u "java/lang/CharSequence$1CharIterator"), (5, .class_ 67), (0, u "java/lang/Object")] 63

/-- java/lang/CharSequence -/
def k4 : Class := { plain "java/lang/CharSequence" (some 0) with
  accessFlags := 1537
  interfaces := #[]
  cf := some (fileOf pool4 2 #[.nestMembers #[47, 59]] #[] 1537 66 #[] #[])
  fields := #[]
  methods := #[]
  instanceTypes := #[]
  staticTypes := #[]
  resolved := Array.replicate 131 none
  statics := none }

def pool5 : Array CpInfo := pool [(1, .class_ 2), (0, u "java/lang/constant/Constable"), (0, .class_ 4), (0, u "java/lang/Object")] 6

/-- java/lang/constant/Constable -/
def k5 : Class := { plain "java/lang/constant/Constable" (some 0) with
  accessFlags := 1537
  interfaces := #[]
  cf := some (fileOf pool5 1 #[] #[] 1537 3 #[] #[])
  fields := #[]
  methods := #[]
  instanceTypes := #[]
  staticTypes := #[]
  resolved := Array.replicate 11 none
  statics := none }

def pool6 : Array CpInfo := pool [(1, .class_ 2), (0, u "java/lang/constant/ConstantDesc"), (0, .class_ 4), (0, u "java/lang/Object")] 32

/-- java/lang/constant/ConstantDesc -/
def k6 : Class := { plain "java/lang/constant/ConstantDesc" (some 0) with
  accessFlags := 1537
  interfaces := #[]
  cf := some (fileOf pool6 1 #[] #[] 1537 3 #[] #[])
  fields := #[]
  methods := #[]
  instanceTypes := #[]
  staticTypes := #[]
  resolved := Array.replicate 37 none
  statics := none }

def pool7 : Array CpInfo := pool [(1, .methodref 2 3), (0, .class_ 4), (0, .nameAndType 5 6), (0, u "java/lang/Object"), (0, u "<init>"), (0, u "()V"), (0, .string 8), (0, u ""), (0, .fieldref 10 11), (0, .class_ 12), (0, .nameAndType 13 14), (0, u "java/lang/String"), (0, u "value"), (0, u "[B"), (0, .fieldref 10 16), (0, .nameAndType 17 18), (0, u "coder"), (0, u "B"), (2, u "hash"), (0, u "I"), (2, u "hashIsZero"), (0, u "Z"), (0, .methodref 10 28), (0, .nameAndType 5 29), (0, u "([CIILjava/lang/Void;)V"), (8, .fieldref 10 39), (0, .nameAndType 40 26), (0, u "COMPACT_STRINGS"), (1, .class_ 44), (1, u "java/lang/StringUTF16"), (0, u "compress"), (1, .methodref 42 48), (0, .nameAndType 49 50), (0, u "coderFromArrayLen"), (0, u "([BI)B"), (126, .methodref 42 178), (0, .nameAndType 45 179), (0, u "([CII)[B"), (363, u "equals"), (29, u "(Ljava/lang/Object;)Z"), (1, .class_ 576), (0, u "java/lang/CharSequence"), (22, u "CASE_INSENSITIVE_ORDER"), (0, u "Ljava/util/Comparator;"), (409, u "([C)V"), (90, u "serialPersistentFields"), (0, u "[Ljava/io/ObjectStreamField;"), (0, .class_ 1104), (0, u "java/lang/String$CaseInsensitiveComparator"), (1, .class_ 1107), (0, u "java/io/Serializable"), (0, .class_ 1109), (0, u "java/lang/Comparable"), (0, .class_ 1111), (0, u "java/lang/constant/Constable"), (0, .class_ 1113), (0, u "java/lang/constant/ConstantDesc"), (2, u "serialVersionUID"), (0, u "J"), (3, u "REPL"), (0, u "C"), (2, u "LATIN1"), (1, u "UTF16")] 323

def k7m0 : Method := { name := "<init>", desc := "()V", sig := { parameters := [], returnType := none }, accessFlags := 1, code := none }
def k7c1 : Code := { maxStack := 5, maxLocals := 2, code := jdk_42_method_3_code, exceptionTable := #[], attributes := #[] }
def k7m1 : Method := { name := "<init>", desc := "([C)V", sig := { parameters := [(.array .char)], returnType := none }, accessFlags := 1, code := some k7c1 }
def k7c2 : Code := { maxStack := 2, maxLocals := 3, code := jdk_42_method_66_code, exceptionTable := #[], attributes := #[] }
def k7m2 : Method := { name := "equals", desc := "(Ljava/lang/Object;)Z", sig := { parameters := [(.object "java/lang/Object")], returnType := some .boolean }, accessFlags := 1, code := some k7c2 }
def k7c3 : Code := { maxStack := 4, maxLocals := 6, code := jdk_42_method_149_code, exceptionTable := #[], attributes := #[] }
def k7m3 : Method := { name := "<init>", desc := "([CIILjava/lang/Void;)V", sig := { parameters := [(.array .char), .int, .int, (.object "java/lang/Void")], returnType := none }, accessFlags := 2, code := some k7c3 }
/-- java/lang/String -/
def k7 : Class := { plain "java/lang/String" (some 0) with
  accessFlags := 49
  interfaces := #[2, 3, 4, 5, 6]
  cf := some (fileOf pool7 10 #[.nestMembers #[1103]] #[{ accessFlags := 1, nameIndex := 5, descriptorIndex := 6, attributes := #[] }, { accessFlags := 1, nameIndex := 5, descriptorIndex := 1010, attributes := #[] }, { accessFlags := 1, nameIndex := 543, descriptorIndex := 573, attributes := #[] }, { accessFlags := 2, nameIndex := 5, descriptorIndex := 29, attributes := #[] }] 49 2 #[1106, 1108, 575, 1110, 1112] #[{ accessFlags := 18, nameIndex := 13, descriptorIndex := 14, attributes := #[] }, { accessFlags := 18, nameIndex := 17, descriptorIndex := 18, attributes := #[] }, { accessFlags := 2, nameIndex := 21, descriptorIndex := 22, attributes := #[] }, { accessFlags := 2, nameIndex := 25, descriptorIndex := 26, attributes := #[] }, { accessFlags := 26, nameIndex := 1116, descriptorIndex := 1117, attributes := #[] }, { accessFlags := 24, nameIndex := 40, descriptorIndex := 26, attributes := #[] }, { accessFlags := 26, nameIndex := 1101, descriptorIndex := 1102, attributes := #[] }, { accessFlags := 26, nameIndex := 1121, descriptorIndex := 1122, attributes := #[] }, { accessFlags := 25, nameIndex := 599, descriptorIndex := 600, attributes := #[] }, { accessFlags := 24, nameIndex := 1125, descriptorIndex := 18, attributes := #[] }, { accessFlags := 24, nameIndex := 1127, descriptorIndex := 18, attributes := #[] }])
  fields := #[{ name := "value", type := (.array .byte), accessFlags := 18, slot := 0, constantValue := 0 }, { name := "coder", type := .byte, accessFlags := 18, slot := 1, constantValue := 0 }, { name := "hash", type := .int, accessFlags := 2, slot := 2, constantValue := 0 }, { name := "hashIsZero", type := .boolean, accessFlags := 2, slot := 3, constantValue := 0 }, { name := "serialVersionUID", type := .long, accessFlags := 26, slot := 0, constantValue := 0 }, { name := "COMPACT_STRINGS", type := .boolean, accessFlags := 24, slot := 1, constantValue := 0 }, { name := "serialPersistentFields", type := (.array (.object "java/io/ObjectStreamField")), accessFlags := 26, slot := 2, constantValue := 0 }, { name := "REPL", type := .char, accessFlags := 26, slot := 3, constantValue := 0 }, { name := "CASE_INSENSITIVE_ORDER", type := (.object "java/util/Comparator"), accessFlags := 25, slot := 4, constantValue := 0 }, { name := "LATIN1", type := .byte, accessFlags := 24, slot := 5, constantValue := 0 }, { name := "UTF16", type := .byte, accessFlags := 24, slot := 6, constantValue := 0 }]
  methods := #[k7m0, k7m1, k7m2, k7m3]
  instanceTypes := #[(.array .byte), .byte, .int, .boolean]
  staticTypes := #[.long, .boolean, (.array (.object "java/io/ObjectStreamField")), .char, (.object "java/util/Comparator"), .byte, .byte]
  resolved := Array.replicate 1451 none
  statics := some 0 }

def pool8 : Array CpInfo := pool [(6, .class_ 8), (1, u "java/lang/Object"), (0, u "<init>"), (0, u "()V"), (1, .class_ 14), (1, u "java/lang/StringUTF16"), (31, u "$assertionsDisabled"), (0, u "Z"), (13, u "HI_BYTE_SHIFT"), (0, u "I"), (2, u "LO_BYTE_SHIFT"), (49, .methodref 12 116), (0, .nameAndType 117 118), (0, u "compress"), (0, u "([CI[BII)I"), (3, u "([CII)[B"), (138, u "coderFromArrayLen"), (0, u "([BI)B"), (106, .class_ 371), (1, u "java/lang/StringUTF16$LinesSpliterator"), (58, u "MAX_LENGTH"), (196, .class_ 628), (0, u "java/lang/StringUTF16$CodePointsSpliterator"), (0, .class_ 630), (0, u "java/lang/StringUTF16$CharsSpliterator")] 4

def k8m0 : Method := { name := "<init>", desc := "()V", sig := { parameters := [], returnType := none }, accessFlags := 0, code := none }
def k8c1 : Code := { maxStack := 2, maxLocals := 2, code := jdk_52_method_15_code, exceptionTable := #[], attributes := #[] }
def k8m1 : Method := { name := "coderFromArrayLen", desc := "([BI)B", sig := { parameters := [(.array .byte), .int], returnType := some .byte }, accessFlags := 8, code := some k8c1 }
def k8c2 : Code := { maxStack := 5, maxLocals := 6, code := jdk_52_method_16_code, exceptionTable := #[], attributes := #[] }
def k8m2 : Method := { name := "compress", desc := "([CII)[B", sig := { parameters := [(.array .char), .int, .int], returnType := some (.array .byte) }, accessFlags := 9, code := some k8c2 }
def k8c3 : Code := { maxStack := 3, maxLocals := 7, code := jdk_52_method_21_code, exceptionTable := #[], attributes := #[] }
def k8m3 : Method := { name := "compress", desc := "([CI[BII)I", sig := { parameters := [(.array .char), .int, (.array .byte), .int, .int], returnType := some .int }, accessFlags := 9, code := some k8c3 }
/-- java/lang/StringUTF16 -/
def k8 : Class := { plain "java/lang/StringUTF16" (some 0) with
  accessFlags := 48
  interfaces := #[]
  cf := some (fileOf pool8 12 #[.nestMembers #[627, 629, 369]] #[{ accessFlags := 0, nameIndex := 9, descriptorIndex := 10, attributes := #[] }, { accessFlags := 8, nameIndex := 261, descriptorIndex := 262, attributes := #[] }, { accessFlags := 9, nameIndex := 117, descriptorIndex := 122, attributes := #[] }, { accessFlags := 9, nameIndex := 117, descriptorIndex := 118, attributes := #[] }] 48 6 #[] #[{ accessFlags := 26, nameIndex := 61, descriptorIndex := 62, attributes := #[] }, { accessFlags := 26, nameIndex := 65, descriptorIndex := 62, attributes := #[] }, { accessFlags := 24, nameIndex := 430, descriptorIndex := 62, attributes := #[] }, { accessFlags := 4120, nameIndex := 46, descriptorIndex := 47, attributes := #[] }])
  fields := #[{ name := "HI_BYTE_SHIFT", type := .int, accessFlags := 26, slot := 0, constantValue := 0 }, { name := "LO_BYTE_SHIFT", type := .int, accessFlags := 26, slot := 1, constantValue := 0 }, { name := "MAX_LENGTH", type := .int, accessFlags := 24, slot := 2, constantValue := 0 }, { name := "$assertionsDisabled", type := .boolean, accessFlags := 4120, slot := 3, constantValue := 0 }]
  methods := #[k8m0, k8m1, k8m2, k8m3]
  instanceTypes := #[]
  staticTypes := #[.int, .int, .int, .boolean]
  resolved := Array.replicate 635 none
  statics := none }

def pool9 : Array CpInfo := pool [(1, .methodref 2 3), (0, .class_ 4), (0, .nameAndType 5 6), (0, u "java/lang/Object"), (0, u "<init>"), (0, u "()V"), (0, .fieldref 8 9), (0, .class_ 10), (0, .nameAndType 11 12), (0, u "com/example/fixity/fixity/engine/AccountRequest"), (0, u "unreadable"), (0, u "Ljava/lang/String;"), (2, .methodref 16 17), (0, .class_ 18), (0, .nameAndType 19 20), (0, u "java/util/Objects"), (0, u "requireNonNull"), (0, u "(Ljava/lang/Object;Ljava/lang/String;)Ljava/lang/Object;"), (0, .class_ 22), (0, u "java/lang/String"), (3, .string 27), (0, u "label"), (0, .fieldref 8 29), (0, .nameAndType 30 12), (0, u "role"), (6, .fieldref 8 38), (0, .nameAndType 39 40), (0, u "workflowRoles"), (0, u "Ljava/util/List;"), (6, .fieldref 8 48), (0, .nameAndType 49 50), (0, u "disabled"), (0, u "Ljava/lang/Boolean;"), (2, u "auditRead"), (2, u "locked"), (1, u "password"), (1, u "[C"), (2, .methodref 64 65), (0, .class_ 66), (0, .nameAndType 67 68), (0, u "java/util/Optional"), (0, u "ofNullable"), (0, u "(Ljava/lang/Object;)Ljava/util/Optional;"), (4, u "(Ljava/lang/String;)Lcom/example/fixity/fixity/engine/AccountRequest;"), (4, u "()Ljava/util/Optional;")] 6

def k9c0 : Code := { maxStack := 2, maxLocals := 1, code := prog_2_method_1_code, exceptionTable := #[], attributes := #[] }
def k9m0 : Method := { name := "<init>", desc := "()V", sig := { parameters := [], returnType := none }, accessFlags := 1, code := some k9c0 }
def k9c1 : Code := { maxStack := 3, maxLocals := 2, code := prog_2_method_4_code, exceptionTable := #[], attributes := #[] }
def k9m1 : Method := { name := "role", desc := "(Ljava/lang/String;)Lcom/example/fixity/fixity/engine/AccountRequest;", sig := { parameters := [(.object "java/lang/String")], returnType := some (.object "com/example/fixity/fixity/engine/AccountRequest") }, accessFlags := 1, code := some k9c1 }
def k9c2 : Code := { maxStack := 1, maxLocals := 1, code := prog_2_method_10_code, exceptionTable := #[], attributes := #[] }
def k9m2 : Method := { name := "unreadable", desc := "()Ljava/util/Optional;", sig := { parameters := [], returnType := some (.object "java/util/Optional") }, accessFlags := 0, code := some k9c2 }
def k9c3 : Code := { maxStack := 1, maxLocals := 1, code := prog_2_method_11_code, exceptionTable := #[], attributes := #[] }
def k9m3 : Method := { name := "role", desc := "()Ljava/util/Optional;", sig := { parameters := [], returnType := some (.object "java/util/Optional") }, accessFlags := 0, code := some k9c3 }
def k9c4 : Code := { maxStack := 1, maxLocals := 1, code := prog_2_method_12_code, exceptionTable := #[], attributes := #[] }
def k9m4 : Method := { name := "workflowRoles", desc := "()Ljava/util/Optional;", sig := { parameters := [], returnType := some (.object "java/util/Optional") }, accessFlags := 0, code := some k9c4 }
def k9c5 : Code := { maxStack := 1, maxLocals := 1, code := prog_2_method_13_code, exceptionTable := #[], attributes := #[] }
def k9m5 : Method := { name := "disabled", desc := "()Ljava/util/Optional;", sig := { parameters := [], returnType := some (.object "java/util/Optional") }, accessFlags := 0, code := some k9c5 }
/-- com/example/fixity/fixity/engine/AccountRequest -/
def k9 : Class := { plain "com/example/fixity/fixity/engine/AccountRequest" (some 0) with
  accessFlags := 49
  interfaces := #[]
  cf := some (fileOf pool9 8 #[] #[{ accessFlags := 1, nameIndex := 5, descriptorIndex := 6, attributes := #[] }, { accessFlags := 1, nameIndex := 30, descriptorIndex := 73, attributes := #[] }, { accessFlags := 0, nameIndex := 11, descriptorIndex := 78, attributes := #[] }, { accessFlags := 0, nameIndex := 30, descriptorIndex := 78, attributes := #[] }, { accessFlags := 0, nameIndex := 39, descriptorIndex := 78, attributes := #[] }, { accessFlags := 0, nameIndex := 49, descriptorIndex := 78, attributes := #[] }] 49 2 #[] #[{ accessFlags := 18, nameIndex := 11, descriptorIndex := 12, attributes := #[] }, { accessFlags := 2, nameIndex := 30, descriptorIndex := 12, attributes := #[] }, { accessFlags := 2, nameIndex := 39, descriptorIndex := 40, attributes := #[] }, { accessFlags := 2, nameIndex := 49, descriptorIndex := 50, attributes := #[] }, { accessFlags := 2, nameIndex := 53, descriptorIndex := 50, attributes := #[] }, { accessFlags := 2, nameIndex := 56, descriptorIndex := 50, attributes := #[] }, { accessFlags := 2, nameIndex := 58, descriptorIndex := 60, attributes := #[] }])
  fields := #[{ name := "unreadable", type := (.object "java/lang/String"), accessFlags := 18, slot := 0, constantValue := 0 }, { name := "role", type := (.object "java/lang/String"), accessFlags := 2, slot := 1, constantValue := 0 }, { name := "workflowRoles", type := (.object "java/util/List"), accessFlags := 2, slot := 2, constantValue := 0 }, { name := "disabled", type := (.object "java/lang/Boolean"), accessFlags := 2, slot := 3, constantValue := 0 }, { name := "auditRead", type := (.object "java/lang/Boolean"), accessFlags := 2, slot := 4, constantValue := 0 }, { name := "locked", type := (.object "java/lang/Boolean"), accessFlags := 2, slot := 5, constantValue := 0 }, { name := "password", type := (.array .char), accessFlags := 2, slot := 6, constantValue := 0 }]
  methods := #[k9m0, k9m1, k9m2, k9m3, k9m4, k9m5]
  instanceTypes := #[(.object "java/lang/String"), (.object "java/lang/String"), (.object "java/util/List"), (.object "java/lang/Boolean"), (.object "java/lang/Boolean"), (.object "java/lang/Boolean"), (.array .char)]
  staticTypes := #[]
  resolved := Array.replicate 85 none
  statics := none }

def pool10 : Array CpInfo := pool [(1, .fieldref 2 3), (0, .class_ 4), (0, .nameAndType 5 6), (0, u "java/util/Optional"), (0, u "EMPTY"), (0, u "Ljava/util/Optional;"), (0, .methodref 8 9), (0, .class_ 10), (0, .nameAndType 11 12), (0, u "java/lang/Object"), (0, u "<init>"), (0, u "()V"), (0, .fieldref 2 14), (0, .nameAndType 15 16), (0, u "value"), (0, u "Ljava/lang/Object;"), (6, .methodref 2 24), (0, .nameAndType 11 25), (0, u "(Ljava/lang/Object;)V"), (20, u "()Z"), (17, u "ofNullable"), (0, u "(Ljava/lang/Object;)Ljava/util/Optional;"), (2, u "isPresent"), (4, u "get"), (0, u "()Ljava/lang/Object;")] 112

def k10c0 : Code := { maxStack := 2, maxLocals := 2, code := jdk_32_method_2_code, exceptionTable := #[], attributes := #[] }
def k10m0 : Method := { name := "<init>", desc := "(Ljava/lang/Object;)V", sig := { parameters := [(.object "java/lang/Object")], returnType := none }, accessFlags := 2, code := some k10c0 }
def k10c1 : Code := { maxStack := 3, maxLocals := 1, code := jdk_32_method_4_code, exceptionTable := #[], attributes := #[] }
def k10m1 : Method := { name := "ofNullable", desc := "(Ljava/lang/Object;)Ljava/util/Optional;", sig := { parameters := [(.object "java/lang/Object")], returnType := some (.object "java/util/Optional") }, accessFlags := 9, code := some k10c1 }
def k10c2 : Code := { maxStack := 3, maxLocals := 1, code := jdk_32_method_5_code, exceptionTable := #[], attributes := #[] }
def k10m2 : Method := { name := "get", desc := "()Ljava/lang/Object;", sig := { parameters := [], returnType := some (.object "java/lang/Object") }, accessFlags := 1, code := some k10c2 }
def k10c3 : Code := { maxStack := 1, maxLocals := 1, code := jdk_32_method_6_code, exceptionTable := #[], attributes := #[] }
def k10m3 : Method := { name := "isPresent", desc := "()Z", sig := { parameters := [], returnType := some .boolean }, accessFlags := 1, code := some k10c3 }
/-- java/util/Optional -/
def k10 : Class := { plain "java/util/Optional" (some 0) with
  accessFlags := 49
  interfaces := #[]
  cf := some (fileOf pool10 2 #[] #[{ accessFlags := 2, nameIndex := 11, descriptorIndex := 25, attributes := #[] }, { accessFlags := 9, nameIndex := 64, descriptorIndex := 65, attributes := #[] }, { accessFlags := 1, nameIndex := 73, descriptorIndex := 74, attributes := #[] }, { accessFlags := 1, nameIndex := 68, descriptorIndex := 46, attributes := #[] }] 49 8 #[] #[{ accessFlags := 26, nameIndex := 5, descriptorIndex := 6, attributes := #[] }, { accessFlags := 18, nameIndex := 15, descriptorIndex := 16, attributes := #[] }])
  fields := #[{ name := "EMPTY", type := (.object "java/util/Optional"), accessFlags := 26, slot := 0, constantValue := 0 }, { name := "value", type := (.object "java/lang/Object"), accessFlags := 18, slot := 0, constantValue := 0 }]
  methods := #[k10m0, k10m1, k10m2, k10m3]
  instanceTypes := #[(.object "java/lang/Object")]
  staticTypes := #[(.object "java/util/Optional")]
  resolved := Array.replicate 187 none
  statics := some 1 }

def pool11 : Array CpInfo := pool [(2, .class_ 4), (1, u "java/lang/Object"), (0, u "<init>"), (0, u "()V"), (35, .class_ 44), (1, u "java/util/Objects"), (0, u "requireNonNull"), (48, u "(Ljava/lang/Object;Ljava/lang/String;)Ljava/lang/Object;")] 89

def k11m0 : Method := { name := "<init>", desc := "()V", sig := { parameters := [], returnType := none }, accessFlags := 2, code := none }
def k11c1 : Code := { maxStack := 3, maxLocals := 2, code := jdk_31_method_11_code, exceptionTable := #[], attributes := #[] }
def k11m1 : Method := { name := "requireNonNull", desc := "(Ljava/lang/Object;Ljava/lang/String;)Ljava/lang/Object;", sig := { parameters := [(.object "java/lang/Object"), (.object "java/lang/String")], returnType := some (.object "java/lang/Object") }, accessFlags := 9, code := some k11c1 }
/-- java/util/Objects -/
def k11 : Class := { plain "java/util/Objects" (some 0) with
  accessFlags := 49
  interfaces := #[]
  cf := some (fileOf pool11 42 #[] #[{ accessFlags := 2, nameIndex := 5, descriptorIndex := 6, attributes := #[] }, { accessFlags := 9, nameIndex := 45, descriptorIndex := 94, attributes := #[] }] 49 2 #[] #[])
  fields := #[]
  methods := #[k11m0, k11m1]
  instanceTypes := #[]
  staticTypes := #[]
  resolved := Array.replicate 184 none
  statics := none }

def pool12 : Array CpInfo := pool [(4, .class_ 6), (1, u "java/lang/Object"), (0, u "<init>"), (0, u "()V"), (5, .class_ 16), (1, u "java/lang/StringLatin1"), (104, u "$assertionsDisabled"), (0, u "Z"), (98, .class_ 223), (1, u "java/lang/StringLatin1$LinesSpliterator"), (166, .class_ 391), (0, u "java/lang/StringLatin1$CharsSpliterator")] 3

def k12m0 : Method := { name := "<init>", desc := "()V", sig := { parameters := [], returnType := none }, accessFlags := 0, code := none }
/-- java/lang/StringLatin1 -/
def k12 : Class := { plain "java/lang/StringLatin1" (some 0) with
  accessFlags := 48
  interfaces := #[]
  cf := some (fileOf pool12 14 #[.nestMembers #[390, 221]] #[{ accessFlags := 0, nameIndex := 7, descriptorIndex := 8, attributes := #[] }] 48 4 #[] #[{ accessFlags := 4120, nameIndex := 121, descriptorIndex := 122, attributes := #[] }])
  fields := #[{ name := "$assertionsDisabled", type := .boolean, accessFlags := 4120, slot := 0, constantValue := 0 }]
  methods := #[k12m0]
  instanceTypes := #[]
  staticTypes := #[.boolean]
  resolved := Array.replicate 395 none
  statics := none }

def pool13 : Array CpInfo := pool [(2, .class_ 4), (1, u "java/lang/Object"), (0, u "<init>"), (0, u "()V"), (17, .class_ 26), (1, u "jdk/internal/util/Preconditions"), (28, .class_ 56), (0, u "jdk/internal/util/Preconditions$4"), (57, .class_ 115), (0, u "jdk/internal/util/Preconditions$1"), (7, u "SIOOBE_FORMATTER"), (0, u "Ljava/util/function/BiFunction;"), (0, .class_ 126), (0, u "jdk/internal/util/Preconditions$2"), (3, u "AIOOBE_FORMATTER"), (0, .class_ 132), (0, u "jdk/internal/util/Preconditions$3"), (3, u "IOOBE_FORMATTER")] 57

def k13m0 : Method := { name := "<init>", desc := "()V", sig := { parameters := [], returnType := none }, accessFlags := 1, code := none }
/-- jdk/internal/util/Preconditions -/
def k13 : Class := { plain "jdk/internal/util/Preconditions" (some 0) with
  accessFlags := 33
  interfaces := #[]
  cf := some (fileOf pool13 24 #[.nestMembers #[55, 131, 125, 114]] #[{ accessFlags := 1, nameIndex := 5, descriptorIndex := 6, attributes := #[] }] 33 2 #[] #[{ accessFlags := 25, nameIndex := 123, descriptorIndex := 124, attributes := #[] }, { accessFlags := 25, nameIndex := 130, descriptorIndex := 124, attributes := #[] }, { accessFlags := 25, nameIndex := 136, descriptorIndex := 124, attributes := #[] }])
  fields := #[{ name := "SIOOBE_FORMATTER", type := (.object "java/util/function/BiFunction"), accessFlags := 25, slot := 0, constantValue := 0 }, { name := "AIOOBE_FORMATTER", type := (.object "java/util/function/BiFunction"), accessFlags := 25, slot := 1, constantValue := 0 }, { name := "IOOBE_FORMATTER", type := (.object "java/util/function/BiFunction"), accessFlags := 25, slot := 2, constantValue := 0 }]
  methods := #[k13m0]
  instanceTypes := #[]
  staticTypes := #[(.object "java/util/function/BiFunction"), (.object "java/util/function/BiFunction"), (.object "java/util/function/BiFunction")]
  resolved := Array.replicate 194 none
  statics := some 2 }

def pool14 : Array CpInfo := pool [(9, u "<init>"), (6, .class_ 18), (1, u "java/lang/Object"), (0, u "()V"), (1, .class_ 23), (1, u "jdk/internal/util/ArraysSupport"), (0, u "LOG2_ARRAY_LONG_INDEX_SCALE"), (0, u "I"), (2, u "U"), (0, u "Ljdk/internal/misc/Unsafe;"), (8, u "BIG_ENDIAN"), (0, u "Z"), (8, u "LOG2_BYTE_BIT_SIZE"), (4, u "LOG2_ARRAY_INT_INDEX_SCALE"), (54, u "JLA"), (0, u "Ljdk/internal/access/JavaLangAccess;"), (11, u "LOG2_ARRAY_BOOLEAN_INDEX_SCALE"), (9, u "LOG2_ARRAY_BYTE_INDEX_SCALE"), (5, u "LOG2_ARRAY_CHAR_INDEX_SCALE"), (5, u "LOG2_ARRAY_SHORT_INDEX_SCALE"), (18, u "LOG2_ARRAY_FLOAT_INDEX_SCALE"), (24, u "LOG2_ARRAY_DOUBLE_INDEX_SCALE"), (89, u "T_BOOLEAN"), (2, u "T_CHAR"), (1, u "T_FLOAT"), (1, u "T_DOUBLE"), (1, u "T_BYTE"), (1, u "T_SHORT"), (1, u "T_INT"), (1, u "T_LONG"), (1, u "SOFT_MAX_ARRAY_LENGTH")] 83

def k14m0 : Method := { name := "<init>", desc := "()V", sig := { parameters := [], returnType := none }, accessFlags := 2, code := none }
/-- jdk/internal/util/ArraysSupport -/
def k14 : Class := { plain "jdk/internal/util/ArraysSupport" (some 0) with
  accessFlags := 33
  interfaces := #[]
  cf := some (fileOf pool14 21 #[] #[{ accessFlags := 2, nameIndex := 9, descriptorIndex := 19, attributes := #[] }] 33 16 #[] #[{ accessFlags := 24, nameIndex := 28, descriptorIndex := 29, attributes := #[] }, { accessFlags := 26, nameIndex := 38, descriptorIndex := 39, attributes := #[] }, { accessFlags := 25, nameIndex := 121, descriptorIndex := 25, attributes := #[] }, { accessFlags := 25, nameIndex := 131, descriptorIndex := 25, attributes := #[] }, { accessFlags := 25, nameIndex := 137, descriptorIndex := 25, attributes := #[] }, { accessFlags := 25, nameIndex := 143, descriptorIndex := 25, attributes := #[] }, { accessFlags := 25, nameIndex := 53, descriptorIndex := 25, attributes := #[] }, { accessFlags := 25, nameIndex := 24, descriptorIndex := 25, attributes := #[] }, { accessFlags := 25, nameIndex := 162, descriptorIndex := 25, attributes := #[] }, { accessFlags := 25, nameIndex := 187, descriptorIndex := 25, attributes := #[] }, { accessFlags := 26, nameIndex := 48, descriptorIndex := 25, attributes := #[] }, { accessFlags := 25, nameIndex := 277, descriptorIndex := 25, attributes := #[] }, { accessFlags := 25, nameIndex := 280, descriptorIndex := 25, attributes := #[] }, { accessFlags := 25, nameIndex := 282, descriptorIndex := 25, attributes := #[] }, { accessFlags := 25, nameIndex := 284, descriptorIndex := 25, attributes := #[] }, { accessFlags := 25, nameIndex := 286, descriptorIndex := 25, attributes := #[] }, { accessFlags := 25, nameIndex := 288, descriptorIndex := 25, attributes := #[] }, { accessFlags := 25, nameIndex := 290, descriptorIndex := 25, attributes := #[] }, { accessFlags := 25, nameIndex := 292, descriptorIndex := 25, attributes := #[] }, { accessFlags := 26, nameIndex := 108, descriptorIndex := 109, attributes := #[] }, { accessFlags := 25, nameIndex := 294, descriptorIndex := 25, attributes := #[] }])
  fields := #[{ name := "U", type := (.object "jdk/internal/misc/Unsafe"), accessFlags := 24, slot := 0, constantValue := 0 }, { name := "BIG_ENDIAN", type := .boolean, accessFlags := 26, slot := 1, constantValue := 0 }, { name := "LOG2_ARRAY_BOOLEAN_INDEX_SCALE", type := .int, accessFlags := 25, slot := 2, constantValue := 0 }, { name := "LOG2_ARRAY_BYTE_INDEX_SCALE", type := .int, accessFlags := 25, slot := 3, constantValue := 0 }, { name := "LOG2_ARRAY_CHAR_INDEX_SCALE", type := .int, accessFlags := 25, slot := 4, constantValue := 0 }, { name := "LOG2_ARRAY_SHORT_INDEX_SCALE", type := .int, accessFlags := 25, slot := 5, constantValue := 0 }, { name := "LOG2_ARRAY_INT_INDEX_SCALE", type := .int, accessFlags := 25, slot := 6, constantValue := 0 }, { name := "LOG2_ARRAY_LONG_INDEX_SCALE", type := .int, accessFlags := 25, slot := 7, constantValue := 0 }, { name := "LOG2_ARRAY_FLOAT_INDEX_SCALE", type := .int, accessFlags := 25, slot := 8, constantValue := 0 }, { name := "LOG2_ARRAY_DOUBLE_INDEX_SCALE", type := .int, accessFlags := 25, slot := 9, constantValue := 0 }, { name := "LOG2_BYTE_BIT_SIZE", type := .int, accessFlags := 26, slot := 10, constantValue := 0 }, { name := "T_BOOLEAN", type := .int, accessFlags := 25, slot := 11, constantValue := 0 }, { name := "T_CHAR", type := .int, accessFlags := 25, slot := 12, constantValue := 0 }, { name := "T_FLOAT", type := .int, accessFlags := 25, slot := 13, constantValue := 0 }, { name := "T_DOUBLE", type := .int, accessFlags := 25, slot := 14, constantValue := 0 }, { name := "T_BYTE", type := .int, accessFlags := 25, slot := 15, constantValue := 0 }, { name := "T_SHORT", type := .int, accessFlags := 25, slot := 16, constantValue := 0 }, { name := "T_INT", type := .int, accessFlags := 25, slot := 17, constantValue := 0 }, { name := "T_LONG", type := .int, accessFlags := 25, slot := 18, constantValue := 0 }, { name := "JLA", type := (.object "jdk/internal/access/JavaLangAccess"), accessFlags := 26, slot := 19, constantValue := 0 }, { name := "SOFT_MAX_ARRAY_LENGTH", type := .int, accessFlags := 25, slot := 20, constantValue := 0 }]
  methods := #[k14m0]
  instanceTypes := #[]
  staticTypes := #[(.object "jdk/internal/misc/Unsafe"), .boolean, .int, .int, .int, .int, .int, .int, .int, .int, .int, .int, .int, .int, .int, .int, .int, .int, .int, (.object "jdk/internal/access/JavaLangAccess"), .int]
  resolved := Array.replicate 378 none
  statics := none }

def pool15 : Array CpInfo := pool [(1, u "java/lang/Cloneable"), (0, .class_ 1), (0, u "java/lang/Object"), (0, .class_ 3)] 3

/-- java/lang/Cloneable -/
def k15 : Class := { plain "java/lang/Cloneable" (some 0) with
  accessFlags := 1537
  interfaces := #[]
  cf := some (fileOf pool15 2 #[] #[] 1537 4 #[] #[])
  fields := #[]
  methods := #[]
  instanceTypes := #[]
  staticTypes := #[]
  resolved := Array.replicate 8 none
  statics := none }

/-- the primitive byte -/
def k16 : Class := { plain "byte" none with kind := .primitive 'B', accessFlags := 0x411 }
/-- [B -/
def k17 : Class := { plain "[B" (some 0) with kind := .array 16 .byte, interfaces := #[15, 2], accessFlags := 1041 }

/-- the primitive char -/
def k18 : Class := { plain "char" none with kind := .primitive 'C', accessFlags := 0x411 }
/-- [C -/
def k19 : Class := { plain "[C" (some 0) with kind := .array 18 .char, interfaces := #[15, 2], accessFlags := 1041 }

/-- the primitive int -/
def k20 : Class := { plain "int" none with kind := .primitive 'I', accessFlags := 0x411 }
/-- [I -/
def k21 : Class := { plain "[I" (some 0) with kind := .array 20 .int, interfaces := #[15, 2], accessFlags := 1041 }

def heap : Heap := #[{ cls := 7, slots := #[.long 0, .int 1, .null, .int 0, .null, .int 0, .int 0], vm := .statics 7 },
  { cls := 10, slots := #[.ref 3], vm := .statics 10 },
  { cls := 13, slots := #[.null, .null, .null], vm := .statics 13 },
  { cls := 10, slots := #[.null], vm := .none }]
def classes : Array Class := #[k0, k1, k2, k3, k4, k5, k6, k7, k8, k9, k10, k11, k12, k13, k14, k15, k16, k17, k18, k19, k20, k21]
def interned : List (Array UInt16 × Addr) := []
def slotsUsed : Nat := 12
def theMethod : MethodId := ⟨1, 1⟩
def args0 : Array Value := #[.int 5, .int 2, .int 1]
def aboutOver (below : List Frame) : State where
  vm := { classes := classes, interned := interned.toArray }
  heap := heap
  slotsUsed := slotsUsed
  threads := #[{ frames := .invoking theMethod args0 :: below }]
def below0 : List Frame := [.native { method := ⟨0, 0⟩, args := #[] }]
def about1 : State := aboutOver below0
def p0 : Program := .bare "" "" ""
def e0 : Env := launch0.env 0 0 0
theorem w_frames : about1.frames = Frame.invoking theMethod args0 :: below0 := rfl
set_option maxRecDepth 65536 in
theorem w_args : argsFit about1.vm theMethod args0 = true := by decide +kernel
set_option maxRecDepth 65536 in
theorem w_heap : heapFits about1 = true := by decide +kernel
set_option maxRecDepth 65536 in
theorem w_runnable : about1.curStatus? = some .runnable := by decide +kernel
set_option maxRecDepth 65536 in
theorem w_alone : about1.alone = true := by decide +kernel
set_option maxRecDepth 65536 in
theorem w_named : about1.methodNamed? x = some theMethod := by decide +kernel
set_option maxRecDepth 65536 in
theorem w_hears : about1.hears theMethod below0 = true := by decide +kernel
set_option maxRecDepth 65536 in
theorem w_ripe : about1.ripe theMethod args0 below0 = true := by decide +kernel
theorem w_running : about1.status = .running := rfl
set_option maxRecDepth 65536 in
theorem w_room : about1.hasRoom e0.platform room_1 = true :=
  launch0.hasRoom_least _ room_1 (by decide +kernel) (by decide +kernel) (by decide +kernel) (by decide +kernel) (by decide +kernel) (by decide +kernel)
theorem allAtoms_all (ts : List Jvm.Cond) (a : Array Jvm.Value) (st : Jvm.State) : (allAtoms ts).before a st = ts.all (fun c => c.before a st) := by
  induction ts with
  | nil => rfl
  | cons c t ih =>
    show (Jvm.Cond.and c (allAtoms t)).before a st = _
    rw [Jvm.Cond.before_and, ih, List.all_cons]
def words1 : List Jvm.Cond := Jvm.Cond.code x code maxLocals ret :: tables_1
/-- a 'code' word, met by the world's own term for the bytes: nothing is compared byte by byte -/
theorem code_word {y : MethodName} {bytes : ByteArray} {mx : Nat} {rt : Option FieldType} {a : Array Value} {s : State} {m : MethodId} {meth : Method} {c : Code} (h1 : s.methodNamed? y = some m) (h2 : s.vm.method? m = some meth) (h3 : meth.code = some c) (h4 : c.code = bytes)
    (h5 : (c.maxLocals == mx && c.exceptionTable.isEmpty && decide (c.maxStack ≤ mostOperands) && decide (meth.sig.returnType = rt) && !meth.locks && decide (parseMethodDescriptor y.desc = some meth.sig)) = true) : (Jvm.Cond.code y bytes mx rt).before a s = true := by
  simp only [Bool.and_eq_true, beq_iff_eq, Bool.not_eq_true', decide_eq_true_eq] at h5
  obtain ⟨⟨⟨⟨⟨g1, g2⟩, g3⟩, g4⟩, g5⟩, g6⟩ := h5
  simp [Cond.before, Cond.holds, Cond.value, h1, h2, h3, h4, g1, g2, g3, g4, g5, g6]
def isCode : Jvm.Cond → Bool
  | .code _ _ _ _ => true
  | _ => false
theorem all_split {L : List Jvm.Cond} {P : Jvm.Cond → Bool} (h1 : L.all (fun c => isCode c || P c) = true) (h2 : ∀ c ∈ L.filter isCode, P c = true) : L.all P = true := by
  refine List.all_eq_true.mpr fun c hc => ?_
  have h := List.all_eq_true.mp h1 c hc
  rcases Bool.eq_false_or_eq_true (isCode c) with hi | hi
  · exact h2 c (List.mem_filter.mpr ⟨hc, hi⟩)
  · simpa [hi] using h
set_option maxRecDepth 65536 in
theorem w_c0 : (Jvm.Cond.code x code maxLocals ret).before args0 about1 = true := code_word (m := ⟨1, 1⟩) (meth := k1m1) (c := k1c1) (by decide +kernel) rfl rfl rfl (by decide +kernel)
set_option maxRecDepth 65536 in
theorem w_c1 : (Jvm.Cond.code ({ cls := "com/example/fixity/fixity/engine/AccountRequestRolePinLaw", name := "mk", desc := "(II)Ljava/lang/String;" } : Jvm.MethodName) method_3_code (5 : Nat) (Option.some (Jvm.ClassFile.FieldType.object "java/lang/String"))).before args0 about1 = true := code_word (m := ⟨1, 2⟩) (meth := k1m2) (c := k1c2) (by decide +kernel) rfl rfl rfl (by decide +kernel)
set_option maxRecDepth 65536 in
theorem w_c2 : (Jvm.Cond.code ({ cls := "java/lang/String", name := "<init>", desc := "([C)V" } : Jvm.MethodName) jdk_42_method_3_code (2 : Nat) (Option.none : Option Jvm.ClassFile.FieldType)).before args0 about1 = true := code_word (m := ⟨7, 1⟩) (meth := k7m1) (c := k7c1) (by decide +kernel) rfl rfl rfl (by decide +kernel)
set_option maxRecDepth 65536 in
theorem w_c3 : (Jvm.Cond.code ({ cls := "java/lang/String", name := "<init>", desc := "([CIILjava/lang/Void;)V" } : Jvm.MethodName) jdk_42_method_149_code (6 : Nat) (Option.none : Option Jvm.ClassFile.FieldType)).before args0 about1 = true := code_word (m := ⟨7, 3⟩) (meth := k7m3) (c := k7c3) (by decide +kernel) rfl rfl rfl (by decide +kernel)
set_option maxRecDepth 65536 in
theorem w_c4 : (Jvm.Cond.code ({ cls := "java/lang/Object", name := "<init>", desc := "()V" } : Jvm.MethodName) object_method_1_code (1 : Nat) (Option.none : Option Jvm.ClassFile.FieldType)).before args0 about1 = true := code_word (m := ⟨0, 0⟩) (meth := k0m0) (c := k0c0) (by decide +kernel) rfl rfl rfl (by decide +kernel)
set_option maxRecDepth 65536 in
theorem w_c5 : (Jvm.Cond.code ({ cls := "java/lang/StringUTF16", name := "compress", desc := "([CII)[B" } : Jvm.MethodName) jdk_52_method_16_code (6 : Nat) (Option.some (Jvm.ClassFile.FieldType.array Jvm.ClassFile.FieldType.byte))).before args0 about1 = true := code_word (m := ⟨8, 2⟩) (meth := k8m2) (c := k8c2) (by decide +kernel) rfl rfl rfl (by decide +kernel)
set_option maxRecDepth 65536 in
theorem w_c6 : (Jvm.Cond.code ({ cls := "java/lang/StringUTF16", name := "compress", desc := "([CI[BII)I" } : Jvm.MethodName) jdk_52_method_21_code (7 : Nat) (Option.some Jvm.ClassFile.FieldType.int)).before args0 about1 = true := code_word (m := ⟨8, 3⟩) (meth := k8m3) (c := k8c3) (by decide +kernel) rfl rfl rfl (by decide +kernel)
set_option maxRecDepth 65536 in
theorem w_c7 : (Jvm.Cond.code ({ cls := "java/lang/StringUTF16", name := "coderFromArrayLen", desc := "([BI)B" } : Jvm.MethodName) jdk_52_method_15_code (2 : Nat) (Option.some Jvm.ClassFile.FieldType.byte)).before args0 about1 = true := code_word (m := ⟨8, 1⟩) (meth := k8m1) (c := k8c1) (by decide +kernel) rfl rfl rfl (by decide +kernel)
set_option maxRecDepth 65536 in
theorem w_c8 : (Jvm.Cond.code ({ cls := "com/example/fixity/fixity/engine/AccountRequest", name := "<init>", desc := "()V" } : Jvm.MethodName) prog_2_method_1_code (1 : Nat) (Option.none : Option Jvm.ClassFile.FieldType)).before args0 about1 = true := code_word (m := ⟨9, 0⟩) (meth := k9m0) (c := k9c0) (by decide +kernel) rfl rfl rfl (by decide +kernel)
set_option maxRecDepth 65536 in
theorem w_c9 : (Jvm.Cond.code ({ cls := "com/example/fixity/fixity/engine/AccountRequest", name := "role", desc := "()Ljava/util/Optional;" } : Jvm.MethodName) prog_2_method_11_code (1 : Nat) (Option.some (Jvm.ClassFile.FieldType.object "java/util/Optional"))).before args0 about1 = true := code_word (m := ⟨9, 3⟩) (meth := k9m3) (c := k9c3) (by decide +kernel) rfl rfl rfl (by decide +kernel)
set_option maxRecDepth 65536 in
theorem w_c10 : (Jvm.Cond.code ({ cls := "java/util/Optional", name := "ofNullable", desc := "(Ljava/lang/Object;)Ljava/util/Optional;" } : Jvm.MethodName) jdk_32_method_4_code (1 : Nat) (Option.some (Jvm.ClassFile.FieldType.object "java/util/Optional"))).before args0 about1 = true := code_word (m := ⟨10, 1⟩) (meth := k10m1) (c := k10c1) (by decide +kernel) rfl rfl rfl (by decide +kernel)
set_option maxRecDepth 65536 in
theorem w_c11 : (Jvm.Cond.code ({ cls := "java/util/Optional", name := "isPresent", desc := "()Z" } : Jvm.MethodName) jdk_32_method_6_code (1 : Nat) (Option.some Jvm.ClassFile.FieldType.boolean)).before args0 about1 = true := code_word (m := ⟨10, 3⟩) (meth := k10m3) (c := k10c3) (by decide +kernel) rfl rfl rfl (by decide +kernel)
set_option maxRecDepth 65536 in
theorem w_c12 : (Jvm.Cond.code ({ cls := "com/example/fixity/fixity/engine/AccountRequest", name := "role", desc := "(Ljava/lang/String;)Lcom/example/fixity/fixity/engine/AccountRequest;" } : Jvm.MethodName) prog_2_method_4_code (2 : Nat) (Option.some (Jvm.ClassFile.FieldType.object "com/example/fixity/fixity/engine/AccountRequest"))).before args0 about1 = true := code_word (m := ⟨9, 1⟩) (meth := k9m1) (c := k9c1) (by decide +kernel) rfl rfl rfl (by decide +kernel)
set_option maxRecDepth 65536 in
theorem w_c13 : (Jvm.Cond.code ({ cls := "java/util/Objects", name := "requireNonNull", desc := "(Ljava/lang/Object;Ljava/lang/String;)Ljava/lang/Object;" } : Jvm.MethodName) jdk_31_method_11_code (2 : Nat) (Option.some (Jvm.ClassFile.FieldType.object "java/lang/Object"))).before args0 about1 = true := code_word (m := ⟨11, 1⟩) (meth := k11m1) (c := k11c1) (by decide +kernel) rfl rfl rfl (by decide +kernel)
set_option maxRecDepth 65536 in
theorem w_c14 : (Jvm.Cond.code ({ cls := "java/util/Optional", name := "<init>", desc := "(Ljava/lang/Object;)V" } : Jvm.MethodName) jdk_32_method_2_code (2 : Nat) (Option.none : Option Jvm.ClassFile.FieldType)).before args0 about1 = true := code_word (m := ⟨10, 0⟩) (meth := k10m0) (c := k10c0) (by decide +kernel) rfl rfl rfl (by decide +kernel)
set_option maxRecDepth 65536 in
theorem w_c15 : (Jvm.Cond.code ({ cls := "java/util/Optional", name := "get", desc := "()Ljava/lang/Object;" } : Jvm.MethodName) jdk_32_method_5_code (1 : Nat) (Option.some (Jvm.ClassFile.FieldType.object "java/lang/Object"))).before args0 about1 = true := code_word (m := ⟨10, 2⟩) (meth := k10m2) (c := k10c2) (by decide +kernel) rfl rfl rfl (by decide +kernel)
set_option maxRecDepth 65536 in
theorem w_c16 : (Jvm.Cond.code ({ cls := "java/lang/String", name := "equals", desc := "(Ljava/lang/Object;)Z" } : Jvm.MethodName) jdk_42_method_66_code (3 : Nat) (Option.some Jvm.ClassFile.FieldType.boolean)).before args0 about1 = true := code_word (m := ⟨7, 2⟩) (meth := k7m2) (c := k7c2) (by decide +kernel) rfl rfl rfl (by decide +kernel)
set_option maxRecDepth 65536 in
theorem w_c17 : (Jvm.Cond.code ({ cls := "com/example/fixity/fixity/engine/AccountRequest", name := "unreadable", desc := "()Ljava/util/Optional;" } : Jvm.MethodName) prog_2_method_10_code (1 : Nat) (Option.some (Jvm.ClassFile.FieldType.object "java/util/Optional"))).before args0 about1 = true := code_word (m := ⟨9, 2⟩) (meth := k9m2) (c := k9c2) (by decide +kernel) rfl rfl rfl (by decide +kernel)
set_option maxRecDepth 65536 in
theorem w_c18 : (Jvm.Cond.code ({ cls := "com/example/fixity/fixity/engine/AccountRequest", name := "disabled", desc := "()Ljava/util/Optional;" } : Jvm.MethodName) prog_2_method_13_code (1 : Nat) (Option.some (Jvm.ClassFile.FieldType.object "java/util/Optional"))).before args0 about1 = true := code_word (m := ⟨9, 5⟩) (meth := k9m5) (c := k9c5) (by decide +kernel) rfl rfl rfl (by decide +kernel)
set_option maxRecDepth 65536 in
theorem w_c19 : (Jvm.Cond.code ({ cls := "com/example/fixity/fixity/engine/AccountRequest", name := "workflowRoles", desc := "()Ljava/util/Optional;" } : Jvm.MethodName) prog_2_method_12_code (1 : Nat) (Option.some (Jvm.ClassFile.FieldType.object "java/util/Optional"))).before args0 about1 = true := code_word (m := ⟨9, 4⟩) (meth := k9m4) (c := k9c4) (by decide +kernel) rfl rfl rfl (by decide +kernel)
def codes1 : List Jvm.Cond := [Jvm.Cond.code x code maxLocals ret, Jvm.Cond.code ({ cls := "com/example/fixity/fixity/engine/AccountRequestRolePinLaw", name := "mk", desc := "(II)Ljava/lang/String;" } : Jvm.MethodName) method_3_code (5 : Nat) (Option.some (Jvm.ClassFile.FieldType.object "java/lang/String")), Jvm.Cond.code ({ cls := "java/lang/String", name := "<init>", desc := "([C)V" } : Jvm.MethodName) jdk_42_method_3_code (2 : Nat) (Option.none : Option Jvm.ClassFile.FieldType), Jvm.Cond.code ({ cls := "java/lang/String", name := "<init>", desc := "([CIILjava/lang/Void;)V" } : Jvm.MethodName) jdk_42_method_149_code (6 : Nat) (Option.none : Option Jvm.ClassFile.FieldType), Jvm.Cond.code ({ cls := "java/lang/Object", name := "<init>", desc := "()V" } : Jvm.MethodName) object_method_1_code (1 : Nat) (Option.none : Option Jvm.ClassFile.FieldType), Jvm.Cond.code ({ cls := "java/lang/StringUTF16", name := "compress", desc := "([CII)[B" } : Jvm.MethodName) jdk_52_method_16_code (6 : Nat) (Option.some (Jvm.ClassFile.FieldType.array Jvm.ClassFile.FieldType.byte)), Jvm.Cond.code ({ cls := "java/lang/StringUTF16", name := "compress", desc := "([CI[BII)I" } : Jvm.MethodName) jdk_52_method_21_code (7 : Nat) (Option.some Jvm.ClassFile.FieldType.int), Jvm.Cond.code ({ cls := "java/lang/StringUTF16", name := "coderFromArrayLen", desc := "([BI)B" } : Jvm.MethodName) jdk_52_method_15_code (2 : Nat) (Option.some Jvm.ClassFile.FieldType.byte), Jvm.Cond.code ({ cls := "com/example/fixity/fixity/engine/AccountRequest", name := "<init>", desc := "()V" } : Jvm.MethodName) prog_2_method_1_code (1 : Nat) (Option.none : Option Jvm.ClassFile.FieldType), Jvm.Cond.code ({ cls := "com/example/fixity/fixity/engine/AccountRequest", name := "role", desc := "()Ljava/util/Optional;" } : Jvm.MethodName) prog_2_method_11_code (1 : Nat) (Option.some (Jvm.ClassFile.FieldType.object "java/util/Optional")), Jvm.Cond.code ({ cls := "java/util/Optional", name := "ofNullable", desc := "(Ljava/lang/Object;)Ljava/util/Optional;" } : Jvm.MethodName) jdk_32_method_4_code (1 : Nat) (Option.some (Jvm.ClassFile.FieldType.object "java/util/Optional")), Jvm.Cond.code ({ cls := "java/util/Optional", name := "isPresent", desc := "()Z" } : Jvm.MethodName) jdk_32_method_6_code (1 : Nat) (Option.some Jvm.ClassFile.FieldType.boolean), Jvm.Cond.code ({ cls := "com/example/fixity/fixity/engine/AccountRequest", name := "role", desc := "(Ljava/lang/String;)Lcom/example/fixity/fixity/engine/AccountRequest;" } : Jvm.MethodName) prog_2_method_4_code (2 : Nat) (Option.some (Jvm.ClassFile.FieldType.object "com/example/fixity/fixity/engine/AccountRequest")), Jvm.Cond.code ({ cls := "java/util/Objects", name := "requireNonNull", desc := "(Ljava/lang/Object;Ljava/lang/String;)Ljava/lang/Object;" } : Jvm.MethodName) jdk_31_method_11_code (2 : Nat) (Option.some (Jvm.ClassFile.FieldType.object "java/lang/Object")), Jvm.Cond.code ({ cls := "java/util/Optional", name := "<init>", desc := "(Ljava/lang/Object;)V" } : Jvm.MethodName) jdk_32_method_2_code (2 : Nat) (Option.none : Option Jvm.ClassFile.FieldType), Jvm.Cond.code ({ cls := "java/util/Optional", name := "get", desc := "()Ljava/lang/Object;" } : Jvm.MethodName) jdk_32_method_5_code (1 : Nat) (Option.some (Jvm.ClassFile.FieldType.object "java/lang/Object")), Jvm.Cond.code ({ cls := "java/lang/String", name := "equals", desc := "(Ljava/lang/Object;)Z" } : Jvm.MethodName) jdk_42_method_66_code (3 : Nat) (Option.some Jvm.ClassFile.FieldType.boolean), Jvm.Cond.code ({ cls := "com/example/fixity/fixity/engine/AccountRequest", name := "unreadable", desc := "()Ljava/util/Optional;" } : Jvm.MethodName) prog_2_method_10_code (1 : Nat) (Option.some (Jvm.ClassFile.FieldType.object "java/util/Optional")), Jvm.Cond.code ({ cls := "com/example/fixity/fixity/engine/AccountRequest", name := "disabled", desc := "()Ljava/util/Optional;" } : Jvm.MethodName) prog_2_method_13_code (1 : Nat) (Option.some (Jvm.ClassFile.FieldType.object "java/util/Optional")), Jvm.Cond.code ({ cls := "com/example/fixity/fixity/engine/AccountRequest", name := "workflowRoles", desc := "()Ljava/util/Optional;" } : Jvm.MethodName) prog_2_method_12_code (1 : Nat) (Option.some (Jvm.ClassFile.FieldType.object "java/util/Optional"))]
set_option maxRecDepth 65536 in
theorem codes_eq : words1.filter isCode = codes1 := rfl
theorem w_codes : ∀ c ∈ words1.filter isCode, c.before args0 about1 = true := by
  rw [codes_eq]
  intro c hc
  simp only [codes1, List.mem_cons, List.not_mem_nil, or_false] at hc
  rcases hc with rfl | rfl | rfl | rfl | rfl | rfl | rfl | rfl | rfl | rfl | rfl | rfl | rfl | rfl | rfl | rfl | rfl | rfl | rfl | rfl
  · exact w_c0
  · exact w_c1
  · exact w_c2
  · exact w_c3
  · exact w_c4
  · exact w_c5
  · exact w_c6
  · exact w_c7
  · exact w_c8
  · exact w_c9
  · exact w_c10
  · exact w_c11
  · exact w_c12
  · exact w_c13
  · exact w_c14
  · exact w_c15
  · exact w_c16
  · exact w_c17
  · exact w_c18
  · exact w_c19
set_option maxRecDepth 65536 in
theorem w_t1 : (words1.take 24).all (fun c => isCode c || c.before args0 about1) = true := by decide +kernel
set_option maxRecDepth 65536 in
theorem w_t2 : ((words1.drop 24).take 24).all (fun c => isCode c || c.before args0 about1) = true := by decide +kernel
set_option maxRecDepth 65536 in
theorem w_t3 : (((words1.drop 24).drop 24).take 24).all (fun c => isCode c || c.before args0 about1) = true := by decide +kernel
set_option maxRecDepth 65536 in
theorem w_t4 : ((((words1.drop 24).drop 24).drop 24).take 24).all (fun c => isCode c || c.before args0 about1) = true := by decide +kernel
set_option maxRecDepth 65536 in
theorem w_t5 : ((((words1.drop 24).drop 24).drop 24).drop 24).all (fun c => isCode c || c.before args0 about1) = true := by decide +kernel
theorem w_tables : (allAtoms (Jvm.Cond.code x code maxLocals ret :: tables_1)).before args0 about1 = true := by
  rw [allAtoms_all]
  show words1.all (fun c => c.before args0 about1) = true
  refine all_split ?_ w_codes
  rw [← List.take_append_drop 24 words1, List.all_append, w_t1, ← List.take_append_drop 24 (words1.drop 24), List.all_append, w_t2, ← List.take_append_drop 24 ((words1.drop 24).drop 24), List.all_append, w_t3, ← List.take_append_drop 24 (((words1.drop 24).drop 24).drop 24), List.all_append, w_t4, w_t5]
  rfl
set_option maxRecDepth 65536 in
theorem w_rest : rest_1_c.before args0 about1 = true := by decide +kernel
set_option maxRecDepth 65536 in
theorem w_case : (Jvm.Cond.and given_1 narrow_1).before args0 about1 = true := by decide +kernel
set_option maxRecDepth 65536 in
theorem w_consts : constsHeld consts_1 about1 := Jvm.Lit.constsHeldB_iff.mp (by decide +kernel)
theorem w_applies : (headSpec (Jvm.Cond.code x code maxLocals ret :: tables_1) room_1).applies x e0.platform about1 = true :=
  (Spec.applies_iff w_frames).mpr ⟨w_running, w_runnable, w_alone, w_named, w_hears, w_ripe, w_room, w_tables⟩
theorem atStart : AtStart classFile x code maxLocals ret World_1 tables_1 room_1 Calls_1 rest_1 Pre_1 launch0 p0 e0 about1 theMethod args0 below0 :=
  ⟨lists_1, trivial, launch0.admits_env _ _ _, launch0.least_env, fairChoices_fair.cas, fairChoices_fair.clock, w_frames, w_args, w_heap, w_applies, ⟨w_consts, trivial⟩, w_rest, w_case⟩
end start1
theorem witness_1 : WitnessClaimed_1 := ⟨start1.p0, start1.e0, start1.about1, start1.theMethod, start1.args0, start1.below0, start1.atStart⟩
end Jvm.Pilot.@@N@@
