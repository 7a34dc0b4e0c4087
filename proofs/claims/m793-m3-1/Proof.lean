import JvmDerived
import JvmDerived.Pilot.@@N@@Statement
import JvmDerived.Pilot.@@N@@Code
set_option linter.unusedVariables false
set_option linter.unusedSimpArgs false
namespace Jvm.RoadKit
open Sem ClassFile Op Lib Jvm.Stand Jvm.Free Jvm.LawKit
section New
variable {p : Program} {l : Launch} {e : Env} {R : Room} {s : State} {m : MethodId} {args : Array Value} {below : List Frame} {meth : Method} {c : Code} {T : State} {locs : List Loc} {cells slots : Nat}
theorem retI (X : Stand p l e R s m args below meth c T locs cells slots) (hx : p.tables.exec = Jvm.exec) {pc : Nat} {Ls : Array Slot} {z : Int32} {rest : List Value} (hret : meth.sig.returnType = some .int) (hd : decode c.code pc = .ok (.ireturn, 1)) {fs : List Frame}
    (hl : ∀ (f : JFrame) (acts : List Action), f.method = m → f.locked = none → f.entered = [] → (doReturn e (T.setTop f) acts (some (.int z))).1 = T.setFrames fs) : Steps p.tables e below (T.setTop (mkF m pc Ls (.int z :: rest))) (T.setFrames fs) := by
  have hm' : T.vm.method? m = some meth := X.method'
  have hn : narrow .int (.int z) = .int z := rfl
  show Steps p.tables e below (T.setTop { method := m, pc := pc, locals := Ls, stack := _ :: rest, locked := none }) _
  jvm_step X.here [X.here.top, hx, hd, hm', hret, hn]
  first | (intro acts; rw [hl _ acts rfl rfl rfl]) | rw [hl _ _ rfl rfl rfl]
  exact Steps.refl _
theorem own_retA (X : Stand p l e R s m args below meth c T locs cells slots) (hx : p.tables.exec = Jvm.exec) {pc : Nat} {Ls : Array Slot} {v : Value} {t : FieldType} {rest : List Value} (hv : v.isRef = true) (hret : meth.sig.returnType = some t) (ht : t.isReference = true) (hd : decode c.code pc = .ok (.areturn, 1)) {fs : List Frame}
    (hl : ∀ (f : JFrame) (acts : List Action), f.method = m → f.locked = none → f.entered = [] → (doReturn e (T.setTop f) acts (some v)).1 = T.setFrames fs) : Steps p.tables e below (T.setTop (mkF m pc Ls (v :: rest))) (T.setFrames fs) := by
  have hm' : T.vm.method? m = some meth := X.method'
  show Steps p.tables e below (T.setTop { method := m, pc := pc, locals := Ls, stack := _ :: rest, locked := none }) _
  jvm_step X.here [X.here.top, hx, hd, hm', hret, hv, ht]
  first | (intro acts; rw [hl _ acts rfl rfl rfl]) | rw [hl _ _ rfl rfl rfl]
  exact Steps.refl _
theorem own_go {tb : Tables} {e : Env} {below : List Frame} {A B : State} {P : State → Outcome → Prop} (k : ∀ t, Steps tb e below B t → Steps tb e below A t) (h : ∃ s₂ o, Steps tb e below B s₂ ∧ P s₂ o) : ∃ s₂ o, Steps tb e below A s₂ ∧ P s₂ o := by
  obtain ⟨t, o, h1, h2⟩ := h
  exact ⟨t, o, k t h1, h2⟩
theorem own_abs {tb : Tables} {e : Env} {below : List Frame} {A : State} {P0 : State → Outcome → Prop} (h : ∀ P : State → Outcome → Prop, (∀ s₂ o, P0 s₂ o → P s₂ o) → ∃ s₂ o, Steps tb e below A s₂ ∧ P s₂ o) : ∃ s₂ o, Steps tb e below A s₂ ∧ P0 s₂ o := h P0 fun _ _ q => q
theorem own_oldsz {Z : State} {n0 : Nat} {h : Heap} (O : Old Z n0 h) : n0 ≤ h.size := O.1 ▸ O.2.1
theorem own_b255 (x : Int32) : ¬ (x &&& (255 : Int32)) < 0 ∧ ¬ (255 : Int32) < (x &&& (255 : Int32)) := by
  have h := c_and x 255 (by decide)
  have e : (255 : Int32).toInt = 255 := rfl
  have e0 : (0 : Int32).toInt = 0 := rfl
  rw [Int32.lt_iff_toInt_lt, Int32.lt_iff_toInt_lt]
  omega
theorem own_nc2 (x : Int32) : nar .char (x.toUInt32.toUInt16.toUInt32.toInt32) = x.toUInt32.toUInt16.toUInt32.toInt32 := by
  show (((x.toUInt32.toUInt16.toUInt32).toInt32).toUInt32).toUInt16.toUInt32.toInt32 = _
  rw [UInt32.toUInt32_toInt32, UInt16.toUInt16_toUInt32]
theorem own_nb2 (x : Int32) : x.toInt8.toInt32.toInt8.toInt32 = x.toInt8.toInt32 := by simp
/-- a String's bytes, of its chars -/
abbrev own_bs (cs : List Int32) : List Value := (cs.map fun c => c.toInt8.toInt32).map Value.int
theorem own_narR {v : Value} {t : FieldType} (hv : v.isRef = true) : narrow t v = v := by cases v <;> simp [Value.isRef] at hv <;> cases t <;> rfl
theorem own_fitR {v : Value} {s : String} (hv : v.isRef = true) : fits (.object s) v = true := by cases v <;> simp [Value.isRef] at hv <;> rfl
end New
end Jvm.RoadKit
/- laws to paste: Road.backV (cut by pick.py; bodies as the Statement names them) -/
namespace Jvm.Pilot.@@N@@
namespace StrChars
open Jvm Sem ClassFile Op Lib Jvm.Stand Jvm.Free.XT Jvm.Free.ALB Jvm.Free.JM Jvm.Free
open Jvm.Lib.Cold (StaticIs)
/-- a char array whose places are chars -/
def Ch (a : Addr) (A : Cell) (U : State) : Prop := Arr .char a A U ∧ Typed .char A
theorem Ch.mv {a : Addr} {A : Cell} {U U' : State} (h : Ch a A U) (hal : U.vm.Alike U'.vm) (hh : U'.heap = U.heap) : Ch a A U' := ⟨h.1.mv hal hh, h.2⟩
theorem Ch.keep {a : Addr} {A : Cell} {U U' : State} (h : Ch a A U) (hal : U.vm.Alike U'.vm) (hk : U'.heap[a]? = some A) : Ch a A U' := ⟨h.1.keep hal hk, h.2⟩
/-- what place i of a char[]'s cell holds -/
def cv (A : Cell) (i : Nat) : Int32 := match A.slots[i]? with | some (.int x) => x | _ => 0
theorem Ch.get {a : Addr} {A : Cell} {U : State} (h : Ch a A U) {i : Nat} (hi : i < A.slots.size) : A.slots[i]? = some (.int (cv A i)) := by
  have e := Array.getElem?_eq_getElem hi
  have f := h.2 i _ e
  unfold cv; rw [e]
  generalize A.slots[i] = v at f
  cases v <;> simp [fits] at f ⊢
/-- the byte that i2b leaves of a char -/
def lo8 (x : Int32) : Int32 := x.toInt8.toInt32
theorem fits_lo8 (y : Int32) : fits .byte (.int (lo8 y)) = true := by
  have h1 := y.toInt8.le_toInt
  have h2 := y.toInt8.toInt_lt
  simp only [lo8, fits, Bool.and_eq_true, decide_eq_true_eq, Int32.le_iff_toInt_le, Int8.toInt_toInt32, show (-128 : Int32).toInt = -128 from by decide, show (127 : Int32).toInt = 127 from by decide]
  omega
/-- A' is A but that each place j of lo .. hi - 1 holds f j -/
def Laid (A A' : Cell) (lo hi : Nat) (f : Nat → Value) : Prop := A'.cls = A.cls ∧ A'.vm = A.vm ∧ A'.slots.size = A.slots.size ∧ ∀ i, A'.slots[i]? = if lo ≤ i ∧ i < hi then some (f i) else A.slots[i]?
theorem Laid.zero (A : Cell) (lo : Nat) (f : Nat → Value) : Laid A A lo (lo + 0) f := ⟨rfl, rfl, rfl, fun i => by rw [if_neg (by omega)]⟩
theorem Laid.step {A Ak : Cell} {lo k : Nat} {f : Nat → Value} {v : Value} (h : Laid A Ak lo k f) (hlo : lo ≤ k) (hk : k < Ak.slots.size) (hv : v = f k) : Laid A (Ak.setSlot k v) lo (k + 1) f := by
  refine ⟨h.1, h.2.1, by simpa [Cell.setSlot] using h.2.2.1, fun i => ?_⟩
  by_cases e : k = i
  · subst e; rw [Cell.slots_setSlot_self v hk, if_pos (by omega), hv]
  · rw [Cell.slots_setSlot_ne v e, h.2.2.2 i]
    by_cases q : lo ≤ i ∧ i < k
    · rw [if_pos q, if_pos (by omega)]
    · rw [if_neg q, if_neg (by omega)]
def U16 : String := "java/lang/StringUTF16"
namespace Cmp5
def yN : MethodName := ⟨"java/lang/StringUTF16", "compress", "([CI[BII)I"⟩
abbrev yB : ByteArray := jdk_52_method_21_code
theorem d0 : decode yB 0 = .ok (.iconst 0, 1) := by decide +kernel
theorem d1 : decode yB 1 = .ok (.istore 5, 2) := by decide +kernel
theorem d3 : decode yB 3 = .ok (.iload 5, 2) := by decide +kernel
theorem d5 : decode yB 5 = .ok (.iload 4, 2) := by decide +kernel
theorem d7 : decode yB 7 = .ok (.if_icmp (.ge) 37, 3) := by decide +kernel
theorem d10 : decode yB 10 = .ok (.aload_n 0, 1) := by decide +kernel
theorem d11 : decode yB 11 = .ok (.iload_n 1, 1) := by decide +kernel
theorem d12 : decode yB 12 = .ok (.caload, 1) := by decide +kernel
theorem d13 : decode yB 13 = .ok (.istore 6, 2) := by decide +kernel
theorem d15 : decode yB 15 = .ok (.iload 6, 2) := by decide +kernel
theorem d17 : decode yB 17 = .ok (.sipush 255, 3) := by decide +kernel
theorem d20 : decode yB 20 = .ok (.if_icmp (.le) 6, 3) := by decide +kernel
theorem d26 : decode yB 26 = .ok (.aload_n 2, 1) := by decide +kernel
theorem d27 : decode yB 27 = .ok (.iload_n 3, 1) := by decide +kernel
theorem d28 : decode yB 28 = .ok (.iload 6, 2) := by decide +kernel
theorem d30 : decode yB 30 = .ok (.i2b, 1) := by decide +kernel
theorem d31 : decode yB 31 = .ok (.bastore, 1) := by decide +kernel
theorem d32 : decode yB 32 = .ok (.iinc 1 1, 3) := by decide +kernel
theorem d35 : decode yB 35 = .ok (.iinc 3 1, 3) := by decide +kernel
theorem d38 : decode yB 38 = .ok (.iinc 5 1, 3) := by decide +kernel
theorem d41 : decode yB 41 = .ok (.goto (-38), 3) := by decide +kernel
theorem d44 : decode yB 44 = .ok (.iload 4, 2) := by decide +kernel
theorem d46 : decode yB 46 = .ok (.ireturn, 1) := by decide +kernel
def site : List Cond := []
def tab : Cond := tabOf yN yB 7 (some .int) site
def P (b : Addr) (A : Cell) (d : Addr) (B : Cell) (o q len : Nat) (args : Array Value) (s : State) : Prop := args = #[.ref b, .int (Int32.ofNat o), .ref d, .int (Int32.ofNat q), .int (Int32.ofNat len)] ∧ Ch b A s ∧ Arr .byte d B s ∧ b ≠ d ∧ o + len ≤ A.slots.size ∧ q + len ≤ B.slots.size ∧ ∀ i, i < len → ¬ 255 < cv A (o + i)
def E (b : Addr) (A : Cell) (d : Addr) (B : Cell) (o q len : Nat) (r : Option Value) (s u : State) : Prop := r = some (.int (Int32.ofNat len)) ∧ ∃ B', Put d B' s u ∧ Laid B B' q (q + len) (fun j => Value.int (lo8 (cv A (o + (j - q)))))
/-- no char of the range above 255: len; the places written hold each char's low byte -/
theorem law (l : Launch) (b : Addr) (A : Cell) (d : Addr) (B : Cell) (o q len : Nat) : Law l yN 5 5 0 0 yB 7 (some .int) site (P b A d B o q len) (E b A d B o q len) (copyLocs d q len) 0 0 := by
  refine Law.of_walk (plainFor_of_name (by decide +kernel)) (by decide +kernel) (by decide +kernel) (by decide) (fun _ _ h => by rw [h.1]; rfl) (fun _ U U' hal hh h => ⟨h.1, h.2.1.mv hal hh, h.2.2.1.mv hal hh, h.2.2.2⟩) (fun r U U' V V' h1 hal h2 h => ⟨h.1, h.2.elim fun B' q => ⟨B', q.1.mv h1 h2, q.2⟩⟩) ?_
  intro p e s m args below meth c s₁ X0 hexec hbytes hml hret hlk hnm hown hh0 W hP
  obtain ⟨rfl, hA, hB, hne, l1, l2, hp⟩ := hP
  have c1 : Steps p.tables e below (s₁.setTop (entryFrame m #[.ref b, .int (Int32.ofNat o), .ref d, .int (Int32.ofNat q), .int (Int32.ofNat len)] 7)) (s₁.setTop (mkF m 0 #[.val (.ref b), .val (.int (Int32.ofNat o)), .val (.ref d), .val (.int (Int32.ofNat q)), .val (.int (Int32.ofNat len)), .unset, .unset] [])) := entry rfl
  have hA0 := hA.1.mv X0.warmed.alike hh0
  have hB0 := hB.mv X0.warmed.alike hh0
  have a31 := hA.1.2.2.2
  have c2 : Steps p.tables e below (s₁.setTop (entryFrame m #[.ref b, .int (Int32.ofNat o), .ref d, .int (Int32.ofNat q), .int (Int32.ofNat len)] 7)) (s₁.setTop (mkF m 3 #[.val (.ref b), .val (.int (Int32.ofNat o)), .val (.ref d), .val (.int (Int32.ofNat q)), .val (.int (Int32.ofNat len)), .val (.int 0), .unset] [])) := c1.trans (by
    refine iconstV X0.here hexec rfl 0 (hb hbytes d0) (by decide) ?_
    refine XS.istore X0.here hexec rfl (hb hbytes d1) rfl rfl ?_
    exact Steps.refl _)
  have loop : ∀ (r i : Nat), i + r = len → ∀ (z : Slot), (z = .unset ∨ ∃ w, z = .val w ∧ w.category = 1) → ∀ (Tl : State) (Bk : Cell), Stand p l e { frames := 0, locals := 0, cells := 0, slots := 0 } s m #[.ref b, .int (Int32.ofNat o), .ref d, .int (Int32.ofNat q), .int (Int32.ofNat len)] below meth c Tl ([] ++ copyLocs d q i) 0 0 → Put d Bk s₁ Tl → Laid B Bk q (q + i) (fun j => Value.int (lo8 (cv A (o + (j - q))))) →
      Steps p.tables e below (s₁.setTop (entryFrame m #[.ref b, .int (Int32.ofNat o), .ref d, .int (Int32.ofNat q), .int (Int32.ofNat len)] 7)) (Tl.setTop (mkF m 3 #[.val (.ref b), .val (.int (Int32.ofNat (o + i))), .val (.ref d), .val (.int (Int32.ofNat (q + i))), .val (.int (Int32.ofNat len)), .val (.int (Int32.ofNat i)), z] [])) → ∃ (T' : State) (B' : Cell) (z' : Slot), Stand p l e { frames := 0, locals := 0, cells := 0, slots := 0 } s m #[.ref b, .int (Int32.ofNat o), .ref d, .int (Int32.ofNat q), .int (Int32.ofNat len)] below meth c T' ([] ++ copyLocs d q len) 0 0 ∧ Put d B' s₁ T' ∧ Laid B B' q (q + len) (fun j => Value.int (lo8 (cv A (o + (j - q))))) ∧
      Steps p.tables e below (s₁.setTop (entryFrame m #[.ref b, .int (Int32.ofNat o), .ref d, .int (Int32.ofNat q), .int (Int32.ofNat len)] 7)) (T'.setTop (mkF m 3 #[.val (.ref b), .val (.int (Int32.ofNat (o + len))), .val (.ref d), .val (.int (Int32.ofNat (q + len))), .val (.int (Int32.ofNat len)), .val (.int (Int32.ofNat len)), z'] [])) := by
    intro r
    induction r with
    | zero =>
      intro i hi z hz Tl Bk Xl pl fl cl
      have hil : i = len := by omega
      rw [hil] at Xl fl cl
      exact ⟨Tl, Bk, z, Xl, pl, fl, cl⟩
    | succ r ih =>
      intro i hi z hz Tl Bk Xl pl fl cl
      have all := X0.warmed.alike.symm.trans Xl.warmed.alike
      have hAl := hA0.keep all (pl.other hne hA0.1)
      have hBk := hB0.like all pl.1 fl.1 fl.2.1 fl.2.2.1
      have hlt : q + i < Bk.slots.size := by rw [fl.2.2.1]; omega
      have c3 : Steps p.tables e below (s₁.setTop (entryFrame m #[.ref b, .int (Int32.ofNat o), .ref d, .int (Int32.ofNat q), .int (Int32.ofNat len)] 7)) (Tl.setTop (mkF m 12 #[.val (.ref b), .val (.int (Int32.ofNat (o + i))), .val (.ref d), .val (.int (Int32.ofNat (q + i))), .val (.int (Int32.ofNat len)), .val (.int (Int32.ofNat i)), z] [.int (Int32.ofNat (o + i)), .ref b])) := cl.trans (by
        refine XS.iload Xl.here hexec rfl (hb hbytes d3) rfl ?_
        refine XS.iload Xl.here hexec rfl (hb hbytes d5) rfl ?_
        refine XS.icmpNo Xl.here hexec rfl (hb hbytes d7) rfl (ii_ge_f (lt32 (by omega) (by omega))) ?_
        refine XS.aloadN Xl.here hexec rfl (hb hbytes d10) rfl rfl ?_
        refine XS.iloadN Xl.here hexec rfl (hb hbytes d11) rfl ?_
        exact Steps.refl _)
      have c4 : Steps p.tables e below (s₁.setTop (entryFrame m #[.ref b, .int (Int32.ofNat o), .ref d, .int (Int32.ofNat q), .int (Int32.ofNat len)] 7)) (Tl.setTop (mkF m 13 #[.val (.ref b), .val (.int (Int32.ofNat (o + i))), .val (.ref d), .val (.int (Int32.ofNat (q + i))), .val (.int (Int32.ofNat len)), .val (.int (Int32.ofNat i)), z] [.int (cv A (o + i))])) := c3.trans (by
        refine Xl.aget hexec hAl rfl (hA.get (i := o + i) (by omega)) rfl rfl (hb hbytes d12) ?_
        exact Steps.refl _)
      have c5 : Steps p.tables e below (s₁.setTop (entryFrame m #[.ref b, .int (Int32.ofNat o), .ref d, .int (Int32.ofNat q), .int (Int32.ofNat len)] 7)) (Tl.setTop (mkF m 15 #[.val (.ref b), .val (.int (Int32.ofNat (o + i))), .val (.ref d), .val (.int (Int32.ofNat (q + i))), .val (.int (Int32.ofNat len)), .val (.int (Int32.ofNat i)), .val (.int (cv A (o + i)))] [])) := c4.trans (by
        refine XS.istoreS Xl.here hexec rfl (hb hbytes d13) rfl rfl hz ?_
        exact Steps.refl _)
      have c6 : Steps p.tables e below (s₁.setTop (entryFrame m #[.ref b, .int (Int32.ofNat o), .ref d, .int (Int32.ofNat q), .int (Int32.ofNat len)] 7)) (Tl.setTop (mkF m 31 #[.val (.ref b), .val (.int (Int32.ofNat (o + i))), .val (.ref d), .val (.int (Int32.ofNat (q + i))), .val (.int (Int32.ofNat len)), .val (.int (Int32.ofNat i)), .val (.int (cv A (o + i)))] [.int (lo8 (cv A (o + i))), .int (Int32.ofNat (q + i)), .ref d])) := c5.trans (by
        refine XS.iload Xl.here hexec rfl (hb hbytes d15) rfl ?_
        refine sipushV Xl.here hexec rfl 255 (hb hbytes d17) (by decide) ?_
        refine XS.icmpYes Xl.here hexec rfl (pc0 := 20) rfl (hb hbytes d20) rfl (ii_le_t (hp i (by omega))) (by decide) rfl ?_
        refine XS.aloadN Xl.here hexec rfl (hb hbytes d26) rfl rfl ?_
        refine XS.iloadN Xl.here hexec rfl (hb hbytes d27) rfl ?_
        refine XS.iload Xl.here hexec rfl (hb hbytes d28) rfl ?_
        refine i2b Xl.here hexec rfl (hb hbytes d30) rfl ?_
        exact Steps.refl _)
      obtain ⟨T7, X7, p7, st7⟩ := Xl.aput hexec hBk rfl hlt rfl (fits_lo8 (cv A (o + i))) (g := (mkF m 31 #[.val (.ref b), .val (.int (Int32.ofNat (o + i))), .val (.ref d), .val (.int (Int32.ofNat (q + i))), .val (.int (Int32.ofNat len)), .val (.int (Int32.ofNat i)), .val (.int (cv A (o + i)))] [.int (lo8 (cv A (o + i))), .int (Int32.ofNat (q + i)), .ref d])) rfl (rest := []) rfl (hb hbytes d31)
      have c8 : Steps p.tables e below (s₁.setTop (entryFrame m #[.ref b, .int (Int32.ofNat o), .ref d, .int (Int32.ofNat q), .int (Int32.ofNat len)] 7)) (T7.setTop (mkF m 32 #[.val (.ref b), .val (.int (Int32.ofNat (o + i))), .val (.ref d), .val (.int (Int32.ofNat (q + i))), .val (.int (Int32.ofNat len)), .val (.int (Int32.ofNat i)), .val (.int (cv A (o + i)))] [])) := c6.trans (st7 _ (Steps.refl _))
      have c9 : Steps p.tables e below (s₁.setTop (entryFrame m #[.ref b, .int (Int32.ofNat o), .ref d, .int (Int32.ofNat q), .int (Int32.ofNat len)] 7)) (T7.setTop (mkF m 3 #[.val (.ref b), .val (.int (Int32.ofNat (o + i) + 1)), .val (.ref d), .val (.int (Int32.ofNat (q + i) + 1)), .val (.int (Int32.ofNat len)), .val (.int (Int32.ofNat i + 1)), .val (.int (cv A (o + i)))] [])) := c8.trans (by
        refine iincV X7.here hexec rfl 1 (hb hbytes d32) (by decide) rfl rfl ?_
        refine iincV X7.here hexec rfl 1 (hb hbytes d35) (by decide) rfl rfl ?_
        refine iincV X7.here hexec rfl 1 (hb hbytes d38) (by decide) rfl rfl ?_
        refine XS.goto X7.here hexec rfl (pc0 := 41) rfl (hb hbytes d41) (by decide) rfl ?_
        exact Steps.refl _)
      have c10 : Steps p.tables e below (s₁.setTop (entryFrame m #[.ref b, .int (Int32.ofNat o), .ref d, .int (Int32.ofNat q), .int (Int32.ofNat len)] 7)) (T7.setTop (mkF m 3 #[.val (.ref b), .val (.int (Int32.ofNat (o + (i + 1)))), .val (.ref d), .val (.int (Int32.ofNat (q + (i + 1)))), .val (.int (Int32.ofNat len)), .val (.int (Int32.ofNat (i + 1))), .val (.int (cv A (o + i)))] [])) := by
        have := c9
        rw [succ32, succ32, succ32] at this
        exact this
      exact ih (i + 1) (by omega) _ (Or.inr ⟨_, rfl, rfl⟩) T7 _ (by rw [copyLocs_step, ← List.append_assoc]; exact X7) (pl.trans p7) (fl.step (by omega) hlt (by simp)) c10
  obtain ⟨T9, B9, z9, X9, p9, f9, g9⟩ := loop len 0 (by omega) .unset (Or.inl rfl) s₁ B (by simpa [copyLocs] using X0) ⟨hB0.1, fun _ _ => rfl, rfl⟩ (Laid.zero _ _ _) c2
  have c11 : Steps p.tables e below (s₁.setTop (entryFrame m #[.ref b, .int (Int32.ofNat o), .ref d, .int (Int32.ofNat q), .int (Int32.ofNat len)] 7)) (T9.setTop (mkF m 46 #[.val (.ref b), .val (.int (Int32.ofNat (o + len))), .val (.ref d), .val (.int (Int32.ofNat (q + len))), .val (.int (Int32.ofNat len)), .val (.int (Int32.ofNat len)), z9] [.int (Int32.ofNat len)])) := g9.trans (by
    refine XS.iload X9.here hexec rfl (hb hbytes d3) rfl ?_
    refine XS.iload X9.here hexec rfl (hb hbytes d5) rfl ?_
    refine XS.icmpYes X9.here hexec rfl (pc0 := 7) rfl (hb hbytes d7) rfl (ii_ge_t (nlt32 (by omega) (Nat.le_refl _))) (by decide) rfl ?_
    refine XS.iload X9.here hexec rfl (hb hbytes d44) rfl ?_
    exact Steps.refl _)
  exact ⟨T9, some (.int (Int32.ofNat len)), _, _, _, X9, by simp, rfl, rfl, (fun h => by cases h), ⟨rfl, B9, p9.from hh0, f9⟩, fun fs hl => c11.trans (X9.ireturnOut hexec hret rfl (Or.inl rfl) (hb hbytes d46) hl)⟩
end Cmp5
namespace Cmp3
def yN : MethodName := ⟨"java/lang/StringUTF16", "compress", "([CII)[B"⟩
abbrev yB : ByteArray := jdk_52_method_16_code
theorem d0 : decode yB 0 = .ok (.iload_n 2, 1) := by decide +kernel
theorem d1 : decode yB 1 = .ok (.newarray .byte, 2) := by decide +kernel
theorem d3 : decode yB 3 = .ok (.astore_n 3, 1) := by decide +kernel
theorem d4 : decode yB 4 = .ok (.aload_n 0, 1) := by decide +kernel
theorem d5 : decode yB 5 = .ok (.iload_n 1, 1) := by decide +kernel
theorem d6 : decode yB 6 = .ok (.aload_n 3, 1) := by decide +kernel
theorem d7 : decode yB 7 = .ok (.iconst 0, 1) := by decide +kernel
theorem d8 : decode yB 8 = .ok (.iload_n 2, 1) := by decide +kernel
theorem d9 : decode yB 9 = .ok (.invokestatic 115, 3) := by decide +kernel
theorem d12 : decode yB 12 = .ok (.istore 4, 2) := by decide +kernel
theorem d14 : decode yB 14 = .ok (.iload 4, 2) := by decide +kernel
theorem d16 : decode yB 16 = .ok (.iload_n 2, 1) := by decide +kernel
theorem d17 : decode yB 17 = .ok (.if_icmp (.eq) 40, 3) := by decide +kernel
theorem d57 : decode yB 57 = .ok (.aload_n 3, 1) := by decide +kernel
theorem d58 : decode yB 58 = .ok (.areturn, 1) := by decide +kernel
def site : List Cond := [.arrayClass .byte, Cmp5.tab] ++ staticW U16 115 Cmp5.yN
def tab : Cond := tabOf yN yB 6 (some (.array .byte)) site
def P (b : Addr) (A : Cell) (o len : Nat) (args : Array Value) (s : State) : Prop := args = #[.ref b, .int (Int32.ofNat o), .int (Int32.ofNat len)] ∧ Ch b A s ∧ o + len ≤ A.slots.size ∧ len ≤ 536870912 ∧ ∀ i, i < len → ¬ 255 < cv A (o + i)
def E (b : Addr) (A : Cell) (o len : Nat) (r : Option Value) (s u : State) : Prop := NewArr .byte "[B" len (fun j => .int (lo8 (cv A (o + j)))) r s u ∧ u.heap.size = s.heap.size + 1
/-- no char of the range above 255: a new byte[] of their low bytes -/
theorem law (l : Launch) (b : Addr) (A : Cell) (o len : Nat) : Law l yN 3 3 1 18 yB 6 (some (.array .byte)) site (P b A o len) (E b A o len) [] 1 len := by
  refine Law.of_walk (plainFor_of_name (by decide +kernel)) (by decide +kernel) (by decide +kernel) (by decide) (fun _ _ h => by rw [h.1]; rfl) (fun _ U U' hal hh h => ⟨h.1, h.2.1.mv hal hh, h.2.2⟩) (fun r U U' V V' h1 hal h2 h => ⟨NewArr.mv r U U' V V' h1 hal h2 h.1, by rw [h1, h2]; exact h.2⟩) ?_
  intro p e s m args below meth c s₁ X0 hexec hbytes hml hret hlk hnm hown hh0 W hP
  obtain ⟨rfl, hA, l1, l2, hp⟩ := hP
  have a31 := hA.1.2.2.2
  have c1 : Steps p.tables e below (s₁.setTop (entryFrame m #[.ref b, .int (Int32.ofNat o), .int (Int32.ofNat len)] 6)) (s₁.setTop (mkF m 0 #[.val (.ref b), .val (.int (Int32.ofNat o)), .val (.int (Int32.ofNat len)), .unset, .unset, .unset] [])) := entry rfl
  have c2 : Steps p.tables e below (s₁.setTop (entryFrame m #[.ref b, .int (Int32.ofNat o), .int (Int32.ofNat len)] 6)) (s₁.setTop (mkF m 1 #[.val (.ref b), .val (.int (Int32.ofNat o)), .val (.int (Int32.ofNat len)), .unset, .unset, .unset] [.int (Int32.ofNat len)])) := c1.trans (by
    refine XS.iloadN X0.here hexec rfl (hb hbytes d0) rfl ?_
    exact Steps.refl _)
  obtain ⟨T3, B3, X3, ba3, bs3, bv3, bh3, bf3, st3⟩ := X0.anew hexec (atype := .byte) (wk W (.arrayClass .byte)) rfl (by show len * 1 ≤ _; omega) (by omega) (g := (mkF m 1 #[.val (.ref b), .val (.int (Int32.ofNat o)), .val (.int (Int32.ofNat len)), .unset, .unset, .unset] [.int (Int32.ofNat len)])) rfl (hb hbytes d1) (rest := []) rfl (Nat.le_refl _) (by show 0 + len ≤ len; omega)
  rw [hh0] at ba3 st3
  have kp3 : XT.Kept s T3 := (XT.Kept.of_eq hh0).push bh3
  have hA3 := hA.keep X3.warmed.alike (kp3 _ _ hA.1.1)
  have hne : b ≠ s.heap.size := hA.1.ne
  have c4 : Steps p.tables e below (s₁.setTop (entryFrame m #[.ref b, .int (Int32.ofNat o), .int (Int32.ofNat len)] 6)) (T3.setTop (mkF m 3 #[.val (.ref b), .val (.int (Int32.ofNat o)), .val (.int (Int32.ofNat len)), .unset, .unset, .unset] [.ref s.heap.size])) := c2.trans (st3 _ (Steps.refl _))
  have c5 : Steps p.tables e below (s₁.setTop (entryFrame m #[.ref b, .int (Int32.ofNat o), .int (Int32.ofNat len)] 6)) (T3.setTop (mkF m 9 #[.val (.ref b), .val (.int (Int32.ofNat o)), .val (.int (Int32.ofNat len)), .val (.ref s.heap.size), .unset, .unset] [.int (Int32.ofNat len), .int 0, .ref s.heap.size, .int (Int32.ofNat o), .ref b])) := c4.trans (by
    refine XS.astoreN X3.here hexec rfl (hb hbytes d3) rfl rfl rfl ?_
    refine XS.aloadN X3.here hexec rfl (hb hbytes d4) rfl rfl ?_
    refine XS.iloadN X3.here hexec rfl (hb hbytes d5) rfl ?_
    refine XS.aloadN X3.here hexec rfl (hb hbytes d6) rfl rfl ?_
    refine iconstV X3.here hexec rfl 0 (hb hbytes d7) (by decide) ?_
    refine XS.iloadN X3.here hexec rfl (hb hbytes d8) rfl ?_
    exact Steps.refl _)
  obtain ⟨v6, T6, X6, E6, g6⟩ := X3.callS hexec (Cmp5.law l b A s.heap.size B3 o 0 len) hown (wks W (staticW U16 115 Cmp5.yN)) (wk W Cmp5.tab) (W := 0) (Nat.le_of_ble_eq_true rfl) (Nat.le_of_ble_eq_true rfl) (Nat.le_refl _) (by show 0 + len + 0 ≤ len; omega) (g := (mkF m 9 #[.val (.ref b), .val (.int (Int32.ofNat o)), .val (.int (Int32.ofNat len)), .val (.ref s.heap.size), .unset, .unset] [.int (Int32.ofNat len), .int (Int32.ofNat 0), .ref s.heap.size, .int (Int32.ofNat o), .ref b])) rfl (by rw [hml]; rfl) c5 (argsL := [.ref b, .int (Int32.ofNat o), .ref s.heap.size, .int (Int32.ofNat 0), .int (Int32.ofNat len)]) (rest := []) rfl rfl (by show 2 * 0 + 0 ≤ _; decide) (hb hbytes d9) (⟨rfl, hA3, ba3, hne, l1, by rw [bs3]; simp, hp⟩)
  obtain ⟨rfl, B6, p6, f6⟩ := E6
  have c7 : Steps p.tables e below (s₁.setTop (entryFrame m #[.ref b, .int (Int32.ofNat o), .int (Int32.ofNat len)] 6)) (T6.setTop (mkF m 12 #[.val (.ref b), .val (.int (Int32.ofNat o)), .val (.int (Int32.ofNat len)), .val (.ref s.heap.size), .unset, .unset] [.int (Int32.ofNat len)])) := g6
  have c8 : Steps p.tables e below (s₁.setTop (entryFrame m #[.ref b, .int (Int32.ofNat o), .int (Int32.ofNat len)] 6)) (T6.setTop (mkF m 58 #[.val (.ref b), .val (.int (Int32.ofNat o)), .val (.int (Int32.ofNat len)), .val (.ref s.heap.size), .val (.int (Int32.ofNat len)), .unset] [.ref s.heap.size])) := c7.trans (by
    refine XS.istore X6.here hexec rfl (hb hbytes d12) rfl rfl ?_
    refine XS.iload X6.here hexec rfl (hb hbytes d14) rfl ?_
    refine XS.iloadN X6.here hexec rfl (hb hbytes d16) rfl ?_
    refine XS.icmpYes X6.here hexec rfl (pc0 := 17) rfl (hb hbytes d17) rfl (ii_eq_t rfl) (by decide) rfl ?_
    refine XS.aloadN X6.here hexec rfl (hb hbytes d57) rfl rfl ?_
    exact Steps.refl _)
  have X8 := X6.wide (L' := []) (cells' := 1) (slots' := len) (fun x hx hlt => by
    simp only [List.nil_append, copyLocs, List.mem_map, List.mem_range] at hx
    obtain ⟨i, -, rfl⟩ := hx
    exact absurd hlt (Nat.lt_irrefl _)) (Nat.le_refl _) (by omega)
  exact ⟨T6, some (.ref s.heap.size), _, _, _, X8, rfl, rfl, rfl, (fun h => by cases h), ⟨⟨rfl, B6, ba3.like (X3.warmed.alike.symm.trans X6.warmed.alike) p6.1 f6.1 f6.2.1 f6.2.2.1, f6.2.1.trans bv3, by rw [X6.warmed.alike.findClass, f6.1]; exact bf3, by rw [f6.2.2.1, bs3]; simp, fun j hj => by rw [f6.2.2.2 j, if_pos (by omega)]; rfl, kp3.put p6 (Nat.le_refl _)⟩, by rw [p6.2.2, bh3, hh0]; simp⟩, fun fs hl => c8.trans (X8.areturnOut hexec rfl hret rfl (hb hbytes d58) hl)⟩
end Cmp3
namespace CodL
def yN : MethodName := ⟨"java/lang/StringUTF16", "coderFromArrayLen", "([BI)B"⟩
abbrev yB : ByteArray := jdk_52_method_15_code
theorem d0 : decode yB 0 = .ok (.iload_n 1, 1) := by decide +kernel
theorem d1 : decode yB 1 = .ok (.aload_n 0, 1) := by decide +kernel
theorem d2 : decode yB 2 = .ok (.arraylength, 1) := by decide +kernel
theorem d3 : decode yB 3 = .ok (.isub, 1) := by decide +kernel
theorem d4 : decode yB 4 = .ok (.bipush 31, 2) := by decide +kernel
theorem d6 : decode yB 6 = .ok (.iushr, 1) := by decide +kernel
theorem d7 : decode yB 7 = .ok (.i2b, 1) := by decide +kernel
theorem d8 : decode yB 8 = .ok (.ireturn, 1) := by decide +kernel
def site : List Cond := []
def tab : Cond := tabOf yN yB 2 (some .byte) site
def P (d : Addr) (B : Cell) (args : Array Value) (s : State) : Prop := args = #[.ref d, .int (Int32.ofNat B.slots.size)] ∧ Arr .byte d B s
def E (r : Option Value) (s u : State) : Prop := XT.PureE (some (.int 0)) r s u
/-- an array as long as the number of chars: LATIN1 -/
theorem law (l : Launch) (d : Addr) (B : Cell) : Law l yN 2 2 0 0 yB 2 (some .byte) site (P d B) E [] 0 0 := by
  refine Law.of_walk (plainFor_of_name (by decide +kernel)) (by decide +kernel) (by decide +kernel) (by decide) (fun _ _ h => by rw [h.1]; rfl) (fun _ U U' hal hh h => ⟨h.1, h.2.mv hal hh⟩) (fun r U U' V V' h1 hal h2 h => XT.PureE.mv r U U' V V' h1 hal h2 h) ?_
  intro p e s m args below meth c s₁ X0 hexec hbytes hml hret hlk hnm hown hh0 W hP
  obtain ⟨rfl, hB⟩ := hP
  have hB0 := hB.mv X0.warmed.alike hh0
  have c1 : Steps p.tables e below (s₁.setTop (entryFrame m #[.ref d, .int (Int32.ofNat B.slots.size)] 2)) (s₁.setTop (mkF m 0 #[.val (.ref d), .val (.int (Int32.ofNat B.slots.size))] [])) := entry rfl
  have c2 : Steps p.tables e below (s₁.setTop (entryFrame m #[.ref d, .int (Int32.ofNat B.slots.size)] 2)) (s₁.setTop (mkF m 2 #[.val (.ref d), .val (.int (Int32.ofNat B.slots.size))] [.ref d, .int (Int32.ofNat B.slots.size)])) := c1.trans (by
    refine XS.iloadN X0.here hexec rfl (hb hbytes d0) rfl ?_
    refine XS.aloadN X0.here hexec rfl (hb hbytes d1) rfl rfl ?_
    exact Steps.refl _)
  have c3 : Steps p.tables e below (s₁.setTop (entryFrame m #[.ref d, .int (Int32.ofNat B.slots.size)] 2)) (s₁.setTop (mkF m 8 #[.val (.ref d), .val (.int (Int32.ofNat B.slots.size))] [.int (lo8 (ushr (Int32.ofNat B.slots.size - Int32.ofNat B.slots.size) 31))])) := c2.trans (by
    refine X0.alen hexec hB0 rfl rfl (hb hbytes d2) ?_
    refine XS.isub X0.here hexec rfl (hb hbytes d3) rfl ?_
    refine bipushV X0.here hexec rfl 31 (hb hbytes d4) (by decide) ?_
    refine iushr X0.here hexec rfl (hb hbytes d6) rfl ?_
    refine i2b X0.here hexec rfl (hb hbytes d7) rfl ?_
    exact Steps.refl _)
  have e0 : lo8 (ushr (Int32.ofNat B.slots.size - Int32.ofNat B.slots.size) 31) = 0 := by rw [Int32.sub_self]; decide
  rw [e0] at c3
  exact ⟨s₁, some (.int 0), _, _, _, X0, rfl, rfl, rfl, (fun h => by cases h), ⟨rfl, hh0⟩, fun fs hl => c3.trans (X0.ireturnOut hexec hret rfl (Or.inr (Or.inr (Or.inl rfl))) (hb hbytes d8) hl)⟩
end CodL
/-- the String at a is Latin-1 over a new byte[] (the heap's one new cell): the low bytes of the len chars of A from o on; every cell but a is kept -/
def Got (a : Addr) (D : Cell) (fV fC : Field) (A : Cell) (o len : Nat) (r : Option Value) (s u : State) : Prop := r = none ∧ ∃ D' V : Cell, Blank "java/lang/String" a D' u ∧ Same D D' [fV.slot, fC.slot] ∧ D'.slots[fV.slot]? = some (.ref s.heap.size) ∧ D'.slots[fC.slot]? = some (.int 0) ∧ Arr .byte s.heap.size V u ∧ V.vm = .none ∧ u.vm.findClass "[B" = some V.cls ∧ V.slots.size = len ∧ (∀ j, j < len → V.slots[j]? = some (.int (lo8 (cv A (o + j))))) ∧ (∀ (y : Addr) (c : Cell), y ≠ a → s.heap[y]? = some c → u.heap[y]? = some c) ∧ u.heap.size = s.heap.size + 1
theorem Got.mv {a : Addr} {D A : Cell} {fV fC : Field} {o len : Nat} : ∀ r (U U' V V' : State), U'.heap = U.heap → V.vm.Alike V'.vm → V'.heap = V.heap → Got a D fV fC A o len r U V → Got a D fV fC A o len r U' V' :=
  fun r U U' V V' h1 hal h2 ⟨e0, D', X, a1, a2, a3, a4, a5, a6, a7, a8, a9, a10, a11⟩ => ⟨e0, D', X, a1.mv hal h2, a2, by rw [h1]; exact a3, a4, by rw [h1]; exact a5.mv hal h2, a6, by rw [hal.findClass]; exact a7, a8, a9, by rw [h1, h2]; exact a10, by rw [h1, h2]; exact a11⟩
namespace New4
def yN : MethodName := ⟨"java/lang/String", "<init>", "([CIILjava/lang/Void;)V"⟩
abbrev yB : ByteArray := jdk_42_method_149_code
theorem d0 : decode yB 0 = .ok (.aload_n 0, 1) := by decide +kernel
theorem d1 : decode yB 1 = .ok (.invokespecial 1, 3) := by decide +kernel
theorem d4 : decode yB 4 = .ok (.iload_n 3, 1) := by decide +kernel
theorem d5 : decode yB 5 = .ok (.ifCond (.ne) 22, 3) := by decide +kernel
theorem d27 : decode yB 27 = .ok (.getstatic 38, 3) := by decide +kernel
theorem d30 : decode yB 30 = .ok (.ifCond (.eq) 28, 3) := by decide +kernel
theorem d33 : decode yB 33 = .ok (.aload_n 1, 1) := by decide +kernel
theorem d34 : decode yB 34 = .ok (.iload_n 2, 1) := by decide +kernel
theorem d35 : decode yB 35 = .ok (.iload_n 3, 1) := by decide +kernel
theorem d36 : decode yB 36 = .ok (.invokestatic 177, 3) := by decide +kernel
theorem d39 : decode yB 39 = .ok (.astore 5, 2) := by decide +kernel
theorem d41 : decode yB 41 = .ok (.aload_n 0, 1) := by decide +kernel
theorem d42 : decode yB 42 = .ok (.aload 5, 2) := by decide +kernel
theorem d44 : decode yB 44 = .ok (.iload_n 3, 1) := by decide +kernel
theorem d45 : decode yB 45 = .ok (.invokestatic 47, 3) := by decide +kernel
theorem d48 : decode yB 48 = .ok (.putfield 15, 3) := by decide +kernel
theorem d51 : decode yB 51 = .ok (.aload_n 0, 1) := by decide +kernel
theorem d52 : decode yB 52 = .ok (.aload 5, 2) := by decide +kernel
theorem d54 : decode yB 54 = .ok (.putfield 9, 3) := by decide +kernel
theorem d57 : decode yB 57 = .ok (.return_, 1) := by decide +kernel
def site : List Cond := [.fieldLink "java/lang/String" 38 "java/lang/String" "COMPACT_STRINGS" "Z", Cmp3.tab, CodL.tab, .laysFinal "java/lang/String" "java/lang/String" "value" "[B", .fieldLink "java/lang/String" 9 "java/lang/String" "value" "[B", .laysFinal "java/lang/String" "java/lang/String" "coder" "B", .fieldLink "java/lang/String" 15 "java/lang/String" "coder" "B"] ++ objW "java/lang/String" 1 ++ staticW "java/lang/String" 177 Cmp3.yN ++ staticW "java/lang/String" 47 CodL.yN
def tab : Cond := tabOf yN yB 6 none site
def P (a : Addr) (D : Cell) (fV fC : Field) (b : Addr) (A : Cell) (z : Int32) (o len : Nat) (args : Array Value) (s : State) : Prop := args = #[.ref a, .ref b, .int (Int32.ofNat o), .int (Int32.ofNat len), .null] ∧ Blank "java/lang/String" a D s ∧ Found "java/lang/String" "value" "[B" fV s ∧ Found "java/lang/String" "coder" "B" fC s ∧ Ch b A s ∧ StaticIs s "java/lang/String" "COMPACT_STRINGS" "Z" (.int z) ∧ ¬ z = 0 ∧ 0 < len ∧ o + len ≤ A.slots.size ∧ len ≤ 536870912 ∧ ∀ i, i < len → ¬ 255 < cv A (o + i)
def E (a : Addr) (D : Cell) (fV fC : Field) (A : Cell) (o len : Nat) (r : Option Value) (s u : State) : Prop := Got a D fV fC A o len r s u
/-- len > 0, no char of the range above 255: a Latin-1 String of their low bytes -/
theorem law (l : Launch) (a : Addr) (D : Cell) (fV fC : Field) (b : Addr) (A : Cell) (z : Int32) (o len : Nat) : Law l yN 5 4 2 35 yB 6 none site (P a D fV fC b A z o len) (E a D fV fC A o len) [⟨a, fC.slot⟩, ⟨a, fV.slot⟩] 1 len := by
  refine Law.of_walk (plainFor_of_name (by decide +kernel)) (by decide +kernel) (by decide +kernel) (by decide) (fun _ _ h => by rw [h.1]; rfl) (fun _ U U' hal hh h => ⟨h.1, h.2.1.mv hal hh, h.2.2.1.al hal, h.2.2.2.1.al hal, h.2.2.2.2.1.mv hal hh, h.2.2.2.2.2.1.there hal hh, h.2.2.2.2.2.2⟩) (fun r U U' V V' h1 hal h2 h => Got.mv r U U' V V' h1 hal h2 h) ?_
  intro p e s m args below meth c s₁ X0 hexec hbytes hml hret hlk hnm hown hh0 W hP
  obtain ⟨rfl, hB, f1, f2, hA, s1, hz, l0, l1, l2, hp⟩ := hP
  have a31 := hA.1.2.2.2
  have c1 : Steps p.tables e below (s₁.setTop (entryFrame m #[.ref a, .ref b, .int (Int32.ofNat o), .int (Int32.ofNat len), .null] 6)) (s₁.setTop (mkF m 0 #[.val (.ref a), .val (.ref b), .val (.int (Int32.ofNat o)), .val (.int (Int32.ofNat len)), .val .null, .unset] [])) := entry rfl
  have c2 : Steps p.tables e below (s₁.setTop (entryFrame m #[.ref a, .ref b, .int (Int32.ofNat o), .int (Int32.ofNat len), .null] 6)) (s₁.setTop (mkF m 1 #[.val (.ref a), .val (.ref b), .val (.int (Int32.ofNat o)), .val (.int (Int32.ofNat len)), .val .null, .unset] [.ref a])) := c1.trans (by
    refine XS.aloadN X0.here hexec rfl (hb hbytes d0) rfl rfl ?_
    exact Steps.refl _)
  obtain ⟨T3, X3, q3, st3⟩ := X0.oinit hexec hown (wks W (objW "java/lang/String" 1)) (g := (mkF m 1 #[.val (.ref a), .val (.ref b), .val (.int (Int32.ofNat o)), .val (.int (Int32.ofNat len)), .val .null, .unset] [.ref a])) rfl (by rw [hml]; rfl) (rest := []) rfl (hb hbytes d1) (W := 0) (by show 2 * 0 + 0 ≤ _; decide) (Nat.le_of_ble_eq_true rfl) (Nat.le_of_ble_eq_true rfl)
  have hh3 := q3.trans hh0
  have c4 : Steps p.tables e below (s₁.setTop (entryFrame m #[.ref a, .ref b, .int (Int32.ofNat o), .int (Int32.ofNat len), .null] 6)) (T3.setTop (mkF m 27 #[.val (.ref a), .val (.ref b), .val (.int (Int32.ofNat o)), .val (.int (Int32.ofNat len)), .val .null, .unset] [])) := (c2.trans (st3 _ (Steps.refl _))).trans (by
    refine XS.iloadN X3.here hexec rfl (hb hbytes d4) rfl ?_
    refine XS.ifYes X3.here hexec rfl (pc0 := 5) rfl (hb hbytes d5) rfl (i0_ne_t (nz32 (by omega) l0)) (by decide) rfl ?_
    exact Steps.refl _)
  obtain ⟨T5, X5, q5, st5⟩ := X3.sget hexec hown (wk W (.fieldLink "java/lang/String" 38 "java/lang/String" "COMPACT_STRINGS" "Z")) s1 (fun _ _ h => by rw [hh3]; exact h) (g := (mkF m 27 #[.val (.ref a), .val (.ref b), .val (.int (Int32.ofNat o)), .val (.int (Int32.ofNat len)), .val .null, .unset] [])) rfl (hb hbytes d27)
  have hh5 := q5.trans hh3
  have c6 : Steps p.tables e below (s₁.setTop (entryFrame m #[.ref a, .ref b, .int (Int32.ofNat o), .int (Int32.ofNat len), .null] 6)) (T5.setTop (mkF m 30 #[.val (.ref a), .val (.ref b), .val (.int (Int32.ofNat o)), .val (.int (Int32.ofNat len)), .val .null, .unset] [.int z])) := c4.trans (st5 _ (Steps.refl _))
  have c7 : Steps p.tables e below (s₁.setTop (entryFrame m #[.ref a, .ref b, .int (Int32.ofNat o), .int (Int32.ofNat len), .null] 6)) (T5.setTop (mkF m 36 #[.val (.ref a), .val (.ref b), .val (.int (Int32.ofNat o)), .val (.int (Int32.ofNat len)), .val .null, .unset] [.int (Int32.ofNat len), .int (Int32.ofNat o), .ref b])) := c6.trans (by
    refine XS.ifNo X5.here hexec rfl (hb hbytes d30) rfl (i0_eq_f hz) ?_
    refine XS.aloadN X5.here hexec rfl (hb hbytes d33) rfl rfl ?_
    refine XS.iloadN X5.here hexec rfl (hb hbytes d34) rfl ?_
    refine XS.iloadN X5.here hexec rfl (hb hbytes d35) rfl ?_
    exact Steps.refl _)
  obtain ⟨v8, T8, X8, E8, g8⟩ := X5.callS hexec (Cmp3.law l b A o len) hown (wks W (staticW "java/lang/String" 177 Cmp3.yN)) (wk W Cmp3.tab) (W := 0) (Nat.le_of_ble_eq_true rfl) (Nat.le_of_ble_eq_true rfl) (Nat.le_refl _) (by show 0 + len ≤ len; omega) (g := (mkF m 36 #[.val (.ref a), .val (.ref b), .val (.int (Int32.ofNat o)), .val (.int (Int32.ofNat len)), .val .null, .unset] [.int (Int32.ofNat len), .int (Int32.ofNat o), .ref b])) rfl (by rw [hml]; rfl) c7 (argsL := [.ref b, .int (Int32.ofNat o), .int (Int32.ofNat len)]) (rest := []) rfl rfl (by show 2 * 0 + 0 ≤ _; decide) (hb hbytes d36) (⟨rfl, hA.mv X5.warmed.alike hh5, l1, l2, hp⟩)
  obtain ⟨e8, z8⟩ := E8
  obtain ⟨rfl, N, n1, n2, n3, n4, n5, n6⟩ := NewArr.mv _ T5 s _ _ hh5.symm (Vm.Alike.refl _) rfl e8
  rw [hh5] at z8
  have hB1 := hB.keep X8.warmed.alike (n6 _ _ hB.1)
  have hne : s.heap.size ≠ a := (Nat.ne_of_lt (Array.getElem?_eq_some_iff.mp hB.1).1).symm
  have c9 : Steps p.tables e below (s₁.setTop (entryFrame m #[.ref a, .ref b, .int (Int32.ofNat o), .int (Int32.ofNat len), .null] 6)) (T8.setTop (mkF m 39 #[.val (.ref a), .val (.ref b), .val (.int (Int32.ofNat o)), .val (.int (Int32.ofNat len)), .val .null, .unset] [.ref s.heap.size])) := g8
  have c10 : Steps p.tables e below (s₁.setTop (entryFrame m #[.ref a, .ref b, .int (Int32.ofNat o), .int (Int32.ofNat len), .null] 6)) (T8.setTop (mkF m 45 #[.val (.ref a), .val (.ref b), .val (.int (Int32.ofNat o)), .val (.int (Int32.ofNat len)), .val .null, .val (.ref s.heap.size)] [.int (Int32.ofNat N.slots.size), .ref s.heap.size, .ref a])) := by
    have hc : Steps p.tables e below (s₁.setTop (entryFrame m #[.ref a, .ref b, .int (Int32.ofNat o), .int (Int32.ofNat len), .null] 6)) (T8.setTop (mkF m 45 #[.val (.ref a), .val (.ref b), .val (.int (Int32.ofNat o)), .val (.int (Int32.ofNat len)), .val .null, .val (.ref s.heap.size)] [.int (Int32.ofNat len), .ref s.heap.size, .ref a])) := c9.trans (by
      refine XS.astore X8.here hexec rfl (hb hbytes d39) rfl rfl rfl ?_
      refine XS.aloadN X8.here hexec rfl (hb hbytes d41) rfl rfl ?_
      refine XS.aload X8.here hexec rfl (hb hbytes d42) rfl rfl ?_
      refine XS.iloadN X8.here hexec rfl (hb hbytes d44) rfl ?_
      exact Steps.refl _)
    rw [n4]; exact hc
  obtain ⟨v11, T11, X11, E11, g11⟩ := X8.callS hexec (CodL.law l s.heap.size N) hown (wks W (staticW "java/lang/String" 47 CodL.yN)) (wk W CodL.tab) (W := 1) (Nat.le_of_ble_eq_true rfl) (Nat.le_of_ble_eq_true rfl) (Nat.le_refl _) (by show 0 + len + 0 ≤ len; omega) (g := (mkF m 45 #[.val (.ref a), .val (.ref b), .val (.int (Int32.ofNat o)), .val (.int (Int32.ofNat len)), .val .null, .val (.ref s.heap.size)] [.int (Int32.ofNat N.slots.size), .ref s.heap.size, .ref a])) rfl (by rw [hml]; rfl) c10 (argsL := [.ref s.heap.size, .int (Int32.ofNat N.slots.size)]) (rest := [.ref a]) rfl rfl (by show 2 * 0 + (1 + 0) ≤ _; decide) (hb hbytes d45) (⟨rfl, n1⟩)
  obtain ⟨rfl, q11⟩ := E11
  have hB11 := hB1.mv (X8.warmed.alike.symm.trans X11.warmed.alike) q11
  have c12 : Steps p.tables e below (s₁.setTop (entryFrame m #[.ref a, .ref b, .int (Int32.ofNat o), .int (Int32.ofNat len), .null] 6)) (T11.setTop (mkF m 48 #[.val (.ref a), .val (.ref b), .val (.int (Int32.ofNat o)), .val (.int (Int32.ofNat len)), .val .null, .val (.ref s.heap.size)] [.int 0, .ref a])) := g11
  obtain ⟨T13, X13, p13, bl13, sl13, st13⟩ := X11.finit hexec hown (wk W (.fieldLink "java/lang/String" 15 "java/lang/String" "coder" "B")) (Or.inr ⟨_, (wk W (.laysFinal "java/lang/String" "java/lang/String" "coder" "B"))⟩) (Or.inl ⟨rfl, hnm⟩) f2 (Or.inl rfl) hB11 (t := .byte) (by decide +kernel) rfl (g := (mkF m 48 #[.val (.ref a), .val (.ref b), .val (.int (Int32.ofNat o)), .val (.int (Int32.ofNat len)), .val .null, .val (.ref s.heap.size)] [.int 0, .ref a])) rfl (rest := []) rfl (hb hbytes d48)
  have c14 : Steps p.tables e below (s₁.setTop (entryFrame m #[.ref a, .ref b, .int (Int32.ofNat o), .int (Int32.ofNat len), .null] 6)) (T13.setTop (mkF m 54 #[.val (.ref a), .val (.ref b), .val (.int (Int32.ofNat o)), .val (.int (Int32.ofNat len)), .val .null, .val (.ref s.heap.size)] [.ref s.heap.size, .ref a])) := (c12.trans (st13 _ (Steps.refl _))).trans (by
    refine XS.aloadN X13.here hexec rfl (hb hbytes d51) rfl rfl ?_
    refine XS.aload X13.here hexec rfl (hb hbytes d52) rfl rfl ?_
    exact Steps.refl _)
  obtain ⟨T15, X15, p15, bl15, sl15, st15⟩ := X13.finit hexec hown (wk W (.fieldLink "java/lang/String" 9 "java/lang/String" "value" "[B")) (Or.inr ⟨_, (wk W (.laysFinal "java/lang/String" "java/lang/String" "value" "[B"))⟩) (Or.inl ⟨rfl, hnm⟩) f1 (Or.inl rfl) bl13 (t := (.array .byte)) (by decide +kernel) rfl (g := (mkF m 54 #[.val (.ref a), .val (.ref b), .val (.int (Int32.ofNat o)), .val (.int (Int32.ofNat len)), .val .null, .val (.ref s.heap.size)] [.ref s.heap.size, .ref a])) rfl (rest := []) rfl (hb hbytes d54)
  have c16 : Steps p.tables e below (s₁.setTop (entryFrame m #[.ref a, .ref b, .int (Int32.ofNat o), .int (Int32.ofNat len), .null] 6)) (T15.setTop (mkF m 57 #[.val (.ref a), .val (.ref b), .val (.int (Int32.ofNat o)), .val (.int (Int32.ofNat len)), .val .null, .val (.ref s.heap.size)] [])) := c14.trans (st15 _ (Steps.refl _))
  have ap := apart (Or.inr ⟨_, (wk W (.laysFinal "java/lang/String" "java/lang/String" "value" "[B"))⟩) (Or.inr ⟨_, (wk W (.laysFinal "java/lang/String" "java/lang/String" "coder" "B"))⟩) f1 f2 (t₁ := .array .byte) (t₂ := .byte) (by decide +kernel) (by decide +kernel) (by decide)
  have al := X8.warmed.alike.symm.trans X15.warmed.alike
  have n7 : T11.heap[s.heap.size]? = some N := by rw [q11]; exact n1.1
  exact ⟨T15, none, _, _, _, X15, by simp, rfl, by omega, (fun _ => rfl), ⟨rfl, _, N, bl15, ((Same.refl D _).set _ (by simp)).set _ (by simp), sl15, (Cell.slots_setSlot_ne _ ap).trans sl13, n1.keep al (p15.other hne (p13.other hne n7)), n2, by rw [al.findClass]; exact n3, n4, n5, fun y c h1 h2 => p15.other h1 (p13.other h1 (by rw [q11]; exact n6 y c h2)), by rw [p15.2.2, p13.2.2, q11]; exact z8⟩, fun fs hl => c16.trans (X15.returnOut hexec hret (hb hbytes d57) hl)⟩
end New4
namespace New1
def yN : MethodName := ⟨"java/lang/String", "<init>", "([C)V"⟩
abbrev yB : ByteArray := jdk_42_method_3_code
theorem d0 : decode yB 0 = .ok (.aload_n 0, 1) := by decide +kernel
theorem d1 : decode yB 1 = .ok (.aload_n 1, 1) := by decide +kernel
theorem d2 : decode yB 2 = .ok (.iconst 0, 1) := by decide +kernel
theorem d3 : decode yB 3 = .ok (.aload_n 1, 1) := by decide +kernel
theorem d4 : decode yB 4 = .ok (.arraylength, 1) := by decide +kernel
theorem d5 : decode yB 5 = .ok (.aconst_null, 1) := by decide +kernel
theorem d6 : decode yB 6 = .ok (.invokespecial 27, 3) := by decide +kernel
theorem d9 : decode yB 9 = .ok (.return_, 1) := by decide +kernel
def site : List Cond := [New4.tab] ++ initW "java/lang/String" 27 New4.yN
def tab : Cond := tabOf yN yB 2 none site
def P (a : Addr) (D : Cell) (fV fC : Field) (b : Addr) (A : Cell) (z : Int32) (args : Array Value) (s : State) : Prop := args = #[.ref a, .ref b] ∧ Blank "java/lang/String" a D s ∧ Found "java/lang/String" "value" "[B" fV s ∧ Found "java/lang/String" "coder" "B" fC s ∧ Ch b A s ∧ StaticIs s "java/lang/String" "COMPACT_STRINGS" "Z" (.int z) ∧ ¬ z = 0 ∧ 0 < A.slots.size ∧ A.slots.size ≤ 536870912 ∧ ∀ i, i < A.slots.size → ¬ 255 < cv A i
def E (a : Addr) (D : Cell) (fV fC : Field) (A : Cell) (r : Option Value) (s u : State) : Prop := Got a D fV fC A 0 A.slots.size r s u
/-- new String(chars), not empty, no char above 255: a Latin-1 String of their low bytes -/
theorem law (l : Launch) (a : Addr) (D : Cell) (fV fC : Field) (b : Addr) (A : Cell) (z : Int32) : Law l yN 2 1 3 52 yB 2 none site (P a D fV fC b A z) (E a D fV fC A) [⟨a, fC.slot⟩, ⟨a, fV.slot⟩] 1 A.slots.size := by
  refine Law.of_walk (plainFor_of_name (by decide +kernel)) (by decide +kernel) (by decide +kernel) (by decide) (fun _ _ h => by rw [h.1]; rfl) (fun _ U U' hal hh h => ⟨h.1, h.2.1.mv hal hh, h.2.2.1.al hal, h.2.2.2.1.al hal, h.2.2.2.2.1.mv hal hh, h.2.2.2.2.2.1.there hal hh, h.2.2.2.2.2.2⟩) (fun r U U' V V' h1 hal h2 h => Got.mv r U U' V V' h1 hal h2 h) ?_
  intro p e s m args below meth c s₁ X0 hexec hbytes hml hret hlk hnm hown hh0 W hP
  obtain ⟨rfl, hB, f1, f2, hA, s1, hz, l0, l2, hp⟩ := hP
  have c1 : Steps p.tables e below (s₁.setTop (entryFrame m #[.ref a, .ref b] 2)) (s₁.setTop (mkF m 0 #[.val (.ref a), .val (.ref b)] [])) := entry rfl
  have c2 : Steps p.tables e below (s₁.setTop (entryFrame m #[.ref a, .ref b] 2)) (s₁.setTop (mkF m 6 #[.val (.ref a), .val (.ref b)] [.null, .int (Int32.ofNat A.slots.size), .int 0, .ref b, .ref a])) := c1.trans (by
    refine XS.aloadN X0.here hexec rfl (hb hbytes d0) rfl rfl ?_
    refine XS.aloadN X0.here hexec rfl (hb hbytes d1) rfl rfl ?_
    refine iconstV X0.here hexec rfl 0 (hb hbytes d2) (by decide) ?_
    refine XS.aloadN X0.here hexec rfl (hb hbytes d3) rfl rfl ?_
    refine X0.alen hexec (hA.1.mv X0.warmed.alike hh0) rfl rfl (hb hbytes d4) ?_
    refine XS.aconstNull X0.here hexec rfl (hb hbytes d5) ?_
    exact Steps.refl _)
  obtain ⟨v3, T3, X3, E3, g3⟩ := X0.callN hexec (New4.law l a D fV fC b A z 0 A.slots.size) rfl hown (wks W (initW "java/lang/String" 27 New4.yN)) (W New4.tab (by simp only [site, List.mem_cons, List.mem_append, true_or, or_true])) (W := 0) (Nat.le_of_ble_eq_true rfl) (Nat.le_of_ble_eq_true rfl) (Nat.le_refl _) (by show 0 + A.slots.size ≤ A.slots.size; omega) (g := (mkF m 6 #[.val (.ref a), .val (.ref b)] [.null, .int (Int32.ofNat A.slots.size), .int (Int32.ofNat 0), .ref b, .ref a])) rfl (by rw [hml]; rfl) c2 (argsL := [.ref b, .int (Int32.ofNat 0), .int (Int32.ofNat A.slots.size), .null]) (rest := []) rfl rfl (by show 2 * 0 + 0 ≤ _; decide) (hb hbytes d6) (⟨rfl, hB.mv X0.warmed.alike hh0, f1.al X0.warmed.alike, f2.al X0.warmed.alike, hA.mv X0.warmed.alike hh0, s1.there X0.warmed.alike hh0, hz, l0, by omega, l2, fun i hi => by rw [Nat.zero_add]; exact hp i hi⟩)
  have e0 := Got.mv _ s₁ s _ _ hh0.symm (Vm.Alike.refl _) rfl E3
  obtain rfl := e0.1
  have c4 : Steps p.tables e below (s₁.setTop (entryFrame m #[.ref a, .ref b] 2)) (T3.setTop (mkF m 9 #[.val (.ref a), .val (.ref b)] [])) := g3
  exact ⟨T3, none, _, _, _, X3, by simp, rfl, by omega, (fun _ => rfl), e0, fun fs hl => c4.trans (X3.returnOut hexec hret (hb hbytes d9) hl)⟩
theorem pays {l : Launch} {R : Room} {p : Program} {e : Env} {below : List Frame} {s : State} {sargs : Array Value} {len W : Nat} (a : Addr) (D : Cell) (fV fC : Field) (b : Addr) (A : Cell) (z : Int32) (htab : tab.before sargs s = true) (hfr : 4 ≤ R.frames) (hlo : W + 65 ≤ R.locals) :
    Back l R p e below s sargs yN len W (fun A₁ a₁ => A₁.cells + 1 ≤ R.cells ∧ A₁.slots + A.slots.size ≤ R.slots ∧ P a D fV fC b A z a₁ A₁.U) (fun A₁ _ v₁ B₁ => E a D fV fC A v₁ A₁.U B₁.U ∧ B₁.locs = A₁.locs ++ [⟨a, fC.slot⟩, ⟨a, fV.slot⟩] ∧ B₁.cells = A₁.cells + 1 ∧ B₁.slots = A₁.slots + A.slots.size) :=
  (law l a D fV fC b A z).pays htab hfr (by omega)
end New1
end StrChars
namespace StrChars.Road
open Jvm Sem ClassFile Op Lib Jvm.Stand Jvm.Free Jvm.Free.XT
open Jvm.Lib.Cold (StaticIs)
abbrev ST : String := "java/lang/String"
/-- every table word that New1's law asks, flat -/
abbrev words : List Jvm.Cond := [.code New1.yN New1.yB 2 none, .initialized ST, .methodLink ST 27 New4.yN, .instanceMethod New4.yN,
  .code New4.yN New4.yB 6 none, .fieldLink ST 38 ST "COMPACT_STRINGS" "Z", .laysFinal ST ST "value" "[B", .fieldLink ST 9 ST "value" "[B", .laysFinal ST ST "coder" "B", .fieldLink ST 15 ST "coder" "B",
  .methodLink ST 1 Lib.objectInit, .instanceMethod Lib.objectInit, .code Lib.objectInit ⟨#[0xb1]⟩ 1 none, .methodLink ST 177 Cmp3.yN, .static Cmp3.yN, .methodLink ST 47 CodL.yN, .static CodL.yN,
  .code Cmp3.yN Cmp3.yB 6 (some (.array .byte)), .initialized U16, .arrayClass .byte, .methodLink U16 115 Cmp5.yN, .static Cmp5.yN, .code Cmp5.yN Cmp5.yB 7 (some .int), .code CodL.yN CodL.yB 2 (some .byte)]
theorem tab_of {a : Array Value} {s : State} (h : ∀ w ∈ words, w.before a s = true) : New1.tab.before a s = true := by
  have h5 : Cmp5.tab.before a s = true := unparts (wk h (.code Cmp5.yN Cmp5.yB 7 (some .int))) (wks h (.initialized Cmp5.yN.cls :: Cmp5.site))
  have hc : CodL.tab.before a s = true := unparts (wk h (.code CodL.yN CodL.yB 2 (some .byte))) (wks h (.initialized CodL.yN.cls :: CodL.site))
  have q5 : ∀ w ∈ Cmp5.tab :: words, w.before a s = true := fun w hw => (List.mem_cons.mp hw).elim (fun e => e ▸ h5) (h w)
  have h3 : Cmp3.tab.before a s = true := unparts (wk q5 (.code Cmp3.yN Cmp3.yB 6 (some (.array .byte)))) (wks q5 (.initialized Cmp3.yN.cls :: Cmp3.site))
  have q3 : ∀ w ∈ Cmp3.tab :: CodL.tab :: words, w.before a s = true := fun w hw => (List.mem_cons.mp hw).elim (fun e => e ▸ h3) fun hw => (List.mem_cons.mp hw).elim (fun e => e ▸ hc) (h w)
  have h4 : New4.tab.before a s = true := unparts (wk q3 (.code New4.yN New4.yB 6 none)) (wks q3 (.initialized New4.yN.cls :: New4.site))
  have q4 : ∀ w ∈ New4.tab :: words, w.before a s = true := fun w hw => (List.mem_cons.mp hw).elim (fun e => e ▸ h4) (h w)
  exact unparts (wk q4 (.code New1.yN New1.yB 2 none)) (wks q4 (.initialized New1.yN.cls :: New1.site))
/-- the words ride from the start Z to the walk's own state -/
theorem moved {Z s : State} {a0 args : Array Value} (hZ : Z.Warmed39 s.vm) (hw : ∀ d ∈ words, d.before a0 Z = true) : ∀ d ∈ words, d.before args s = true := fun d hd => by
  have q := hw d hd
  have t : ∀ d ∈ words, d = .arrayClass .byte ∨ (d.onTables && d.keepsFace) = true := by decide +kernel
  rcases t d hd with rfl | t
  · exact RoadKit.mvA hZ q
  · exact RoadKit.mv hZ q t
/-- WHAT COMES BACK, over the tables of the start Z: h the heap at the call, h' behind it -/
def Q (Z : State) (x : Addr) (A : Cell) (h : Heap) (v : Option Value) (h' : Heap) (L : List Loc) : Prop := v = none ∧ (∀ y ∈ L, y.base = x) ∧ RoadKit.Keep h h' [x] ∧ h'.size = h.size + 1 ∧ RoadKit.Exa Z h' x ST ∧ RoadKit.Fld Z h' x ST "value" "[B" (.ref h.size) ∧ RoadKit.Fld Z h' x ST "coder" "B" (.int 0) ∧
  (∃ V : Cell, RoadKit.Arr Z h' h.size V .byte ∧ V.vm = .none ∧ Z.vm.findClass "[B" = some V.cls ∧ V.slots.size = A.slots.size ∧ ∀ j, j < A.slots.size → V.slots[j]? = some (.int (lo8 (cv A j)))) ∧
  ∀ (O n d : String) (w : Value), RoadKit.Fld Z h x O n d w → RoadKit.slotOf Z O n d ≠ RoadKit.slotOf Z ST "value" "[B" → RoadKit.slotOf Z O n d ≠ RoadKit.slotOf Z ST "coder" "B" → RoadKit.Fld Z h' x O n d w
/-- **new String(chars) AT A CALL, IN THE ROAD'S FORM**: for specialBack behind newO: x the fresh String, b the char[] with the cell A -/
theorem back {p : Program} {l : Launch} {e : Env} {R : Room} {s : State} {args : Array Value} {below : List Frame} {len W : Nat} {Z : State} {a0 : Array Value} {h : Heap} (hZ : Z.Warmed39 s.vm) (hw : ∀ d ∈ words, d.before a0 Z = true) {kI : Nat} (wi : (Jvm.Cond.instantiable ST kI).before a0 Z = true)
    {x b : Addr} {A : Cell} {z : Int32} {v0 c0 : Value} (E : RoadKit.Exa Z h x ST) (V : RoadKit.Fld Z h x ST "value" "[B" v0) (C : RoadKit.Fld Z h x ST "coder" "B" c0) (K : RoadKit.Arr Z h b A .char) (hty : Typed .char A) (S : RoadKit.Sta Z h ST "COMPACT_STRINGS" "Z" (.int z)) (hz : ¬ z = 0)
    (l0 : 0 < A.slots.size) (l2 : A.slots.size ≤ 536870912) (hp : ∀ i, i < A.slots.size → ¬ 255 < cv A i) (hfr : 4 ≤ R.frames) (hlo : W + 65 ≤ R.locals) :
    Back l R p e below s args New1.yN len W (fun P a => a = #[.ref x, .ref b] ∧ P.U.heap = h ∧ P.cells + 1 ≤ R.cells ∧ P.slots + A.slots.size ≤ R.slots)
      (fun P _ v B => ∃ L, Q Z x A h v B.U.heap L ∧ B.locs = P.locs ++ L ∧ B.cells = P.cells + 1 ∧ B.slots = P.slots + A.slots.size) := by
  intro m meth c P g ig mk a X hg hsize hdg hW hn hp'
  obtain ⟨rfl, rfl, r1, r2⟩ := hp'
  have al : Z.vm.Alike P.U.vm := hZ.alike.trans X.warmed.alike
  obtain ⟨D, cfV, kV, iV, fV, hD, gV, stV, knV, obV, asV, slV⟩ := id V
  obtain ⟨D', cfC, kC, iC, fC, hD', gC, stC, -, -, asC, slC⟩ := id C
  cases hD.symm.trans hD'
  obtain ⟨D2, kD, e1, e2, e3, e4, e5⟩ := id E
  cases hD.symm.trans e1
  obtain ⟨c2, k2, i1, i2, i3, -⟩ := Cond.instantiable_spec wi
  cases e2.symm.trans i1
  cases e3.symm.trans i2
  obtain ⟨kU, u1, u2⟩ := al.2.2 _ _ e3
  have hB : Blank ST x D P.U := ⟨hD, ⟨knV, fun q hq => by rw [hq] at obV; cases obV⟩, by rw [al.findClass]; exact e2, kU, u1, by rw [u2]; exact i3, by rw [u2]; exact e5 i3⟩
  have F1 : Found ST "value" "[B" fV P.U := ⟨SBG.found_only al ⟨cfV, kV, iV, gV⟩, stV⟩
  have F2 : Found ST "coder" "B" fC P.U := ⟨SBG.found_only al ⟨cfC, kC, iC, gC⟩, stC⟩
  have hA : Ch b A P.U := ⟨⟨K.1, State.isArrayOf_alike al K.2.1, K.2.2, by omega⟩, hty⟩
  have hS : StaticIs P.U ST "COMPACT_STRINGS" "Z" (.int z) := by
    obtain ⟨cfS, iS, kS, fS, st, cS, t1, t2, t3, t4, t5, t6, t7⟩ := S
    exact StaticIs.there (s := { Z with heap := P.U.heap }) ⟨cfS, iS, kS, fS, st, cS, t1, t2, t3, t4, t5, (fun q => by rw [q] at t6; cases t6), t7⟩ al rfl
  obtain ⟨v, B, X', ⟨⟨hv, E', V', q1, q2, q3, q4, q5, q6, q7, q8, q9, q10, q11⟩, hl, hc, hs⟩, st⟩ := New1.pays x D fV fC b A z (tab_of (moved hZ hw)) hfr hlo m meth c P g ig mk _ X hg hsize hdg hW hn ⟨r1, r2, rfl, hB, F1, F2, hA, hS, hz, l0, l2, hp⟩
  have al' : Z.vm.Alike B.U.vm := hZ.alike.trans X'.warmed.alike
  have hsz : E'.slots.size = D.slots.size := by
    obtain ⟨-, -, -, kB, w1, w2, w3⟩ := q1
    obtain ⟨kB', y1, y2⟩ := al'.2.2 _ _ e3
    rw [q2.2.1] at w1
    cases w1.symm.trans y1
    rw [w3, e5 i3, y2]
  refine ⟨v, B, X', ⟨_, ⟨hv, ?_, ⟨by omega, fun y cy hy hn' => q10 y cy (by simpa using hn') hy, fun y cy hy => ?_⟩, q11, ⟨E', _, q1.1, by rw [q2.2.1]; exact e2, by rw [q2.2.1]; exact e3, by rw [q2.1]; exact obV, fun _ => by rw [hsz]; exact e5 i3⟩,
    ⟨E', cfV, kV, iV, fV, q1.1, gV, stV, by rw [q2.1]; exact knV, by rw [q2.1]; exact obV, by rw [q2.2.1]; exact asV, q3⟩, ⟨E', cfC, kC, iC, fC, q1.1, gC, stC, by rw [q2.1]; exact knV, by rw [q2.1]; exact obV, by rw [q2.2.1]; exact asC, q4⟩,
    ⟨V', ⟨q5.1, State.isArrayOf_alike al'.symm q5.2.1, q5.2.2.1⟩, q6, by rw [← al'.findClass]; exact q7, q8, fun j hj => by have := q9 j hj; rwa [Nat.zero_add] at this⟩, fun O n d w F n1 n2 => ?_⟩, hl, hc, hs⟩, st⟩
  · intro y hy
    simp only [List.mem_cons, List.not_mem_nil, or_false] at hy
    rcases hy with rfl | rfl <;> rfl
  · by_cases q : y = x
    · subst q
      cases hD.symm.trans hy
      exact ⟨E', q1.1, q2.2.1, q2.1, hsz⟩
    · exact ⟨cy, q10 y cy q hy, rfl, rfl, rfl⟩
  · obtain ⟨D3, cf, k, i, f, g1, g2, g3, g4, g5, g6, g7⟩ := F
    cases hD.symm.trans g1
    simp only [RoadKit.slotOf, g2, gV, gC, Option.map_some, Option.getD_some] at n1 n2
    exact ⟨E', cf, k, i, f, q1.1, g2, g3, by rw [q2.1]; exact g4, by rw [q2.1]; exact g5, by rw [q2.2.1]; exact g6, by rw [q2.2.2 f.slot (by simp [n1, n2])]; exact g7⟩
end StrChars.Road
namespace StrChars.Road
open Jvm Sem ClassFile Op Lib Jvm.Stand Jvm.Free Jvm.Free.XT
/-- WHAT COMES BACK, the byte[] as a list of values -/
def QA (Z : State) (x : Addr) (zn : Int32) (cs : List Int32) (h : Heap) (v : Option Value) (h' : Heap) (L : List Loc) : Prop := v = none ∧ (∀ y ∈ L, y.base = x) ∧ RoadKit.Keep h h' [x] ∧ h'.size = h.size + 1 ∧ RoadKit.Exa Z h' x ST ∧ RoadKit.Fld Z h' x ST "value" "[B" (.ref h.size) ∧ RoadKit.Fld Z h' x ST "coder" "B" (.int 0) ∧
  (∃ kb, Z.vm.findClass "[B" = some kb ∧ RoadKit.Arv Z h' h.size kb .byte zn (cs.map fun c => .int (lo8 c)) (.int 0)) ∧
  ∀ (O n d : String) (w : Value), RoadKit.Fld Z h x O n d w → RoadKit.slotOf Z O n d ≠ RoadKit.slotOf Z ST "value" "[B" → RoadKit.slotOf Z O n d ≠ RoadKit.slotOf Z ST "coder" "B" → RoadKit.Fld Z h' x O n d w
/-- **new String(chars) AT A CALL, THE ARRAYS AS LISTS**: the char[] at b holds cs, not empty, no char above 255 -/
theorem backArv {p : Program} {l : Launch} {e : Env} {R : Room} {s : State} {args : Array Value} {below : List Frame} {len W : Nat} {Z : State} {a0 : Array Value} {h : Heap} (hZ : Z.Warmed39 s.vm) (hw : ∀ d ∈ words, d.before a0 Z = true) {kI : Nat} (wi : (Jvm.Cond.instantiable ST kI).before a0 Z = true)
    {x b : Addr} {k : ClassId} {zn z : Int32} {cs : List Int32} {dv v0 c0 : Value} (E : RoadKit.Exa Z h x ST) (V : RoadKit.Fld Z h x ST "value" "[B" v0) (C : RoadKit.Fld Z h x ST "coder" "B" c0) (K : RoadKit.Arv Z h b k .char zn (cs.map Value.int) dv) (S : RoadKit.Sta Z h ST "COMPACT_STRINGS" "Z" (.int z)) (hz : ¬ z = 0)
    (hlen : zn.toNatClampNeg = cs.length) (h0 : 0 < cs.length) (hbig : cs.length ≤ 536870912) (hall : ∀ c ∈ cs, ¬ 255 < c) (hfr : 4 ≤ R.frames) (hlo : W + 65 ≤ R.locals) :
    Back l R p e below s args New1.yN len W (fun P a => a = #[.ref x, .ref b] ∧ P.U.heap = h ∧ P.cells + 1 ≤ R.cells ∧ P.slots + cs.length ≤ R.slots)
      (fun P _ v B => ∃ L, QA Z x zn cs h v B.U.heap L ∧ B.locs = P.locs ++ L ∧ B.cells = P.cells + 1 ∧ B.slots = P.slots + cs.length) := by
  obtain ⟨A, K1, K2, K3, K4, K5, K6⟩ := K
  have e : A.slots.size = cs.length := K3.trans hlen
  have hat : ∀ (i : Nat) (hi : i < cs.length), A.slots[i]? = some (.int cs[i]) := fun i hi => by rw [K5 i (by omega)]; simp [List.getD_eq_getElem?_getD, hi]
  have hcv : ∀ (i : Nat) (hi : i < cs.length), cv A i = cs[i] := fun i hi => by unfold cv; rw [hat i hi]
  have hty : Typed .char A := fun i v hv => by
    have hi : i < A.slots.size := (Array.getElem?_eq_some_iff.mp hv).1
    have q := K5 i hi
    rw [hv] at q
    rw [Option.some.inj q]
    exact K6 i hi
  refine Back.mono (back hZ hw wi E V C K1 hty S hz (by omega) (by omega) (fun i hi => by rw [hcv i (by omega)]; exact hall _ (List.getElem_mem _)) hfr hlo) (fun P a hp => ⟨hp.1, hp.2.1, hp.2.2.1, by rw [e]; exact hp.2.2.2⟩) (fun P a v B hp hq => ?_)
  obtain ⟨L, ⟨q1, q2, q3, q4, q5, q6, q7, ⟨V', v1, v2, v3, v4, v5⟩, q9⟩, hl, hc, hs⟩ := hq
  refine ⟨L, ⟨q1, q2, q3, q4, q5, q6, q7, ⟨V'.cls, v3, V', v1, rfl, by rw [v4, e, hlen], K4, fun i hi => ?_, fun i hi => ?_⟩, q9⟩, hl, hc, by rw [hs, e]⟩
  · have hi' : i < cs.length := by omega
    rw [v5 i (by omega), hcv i hi']; simp [List.getD_eq_getElem?_getD, hi']
  · have hi' : i < cs.length := by omega
    simp only [List.getD_eq_getElem?_getD, List.getElem?_map, List.getElem?_eq_getElem hi', Option.map_some, Option.getD_some]
    exact fits_lo8 _
end StrChars.Road
namespace StrChars.Road
open Jvm Sem ClassFile Op Lib Jvm.Stand Jvm.Free Jvm.Free.XT
/-- WHAT COMES BACK, in the writer's own shape -/
def QV (Z : State) (x : Addr) (N : Int32) (bs : List Int32) (h : Heap) (n0 : Nat) (v : Option Value) (h' : Heap) (L : List Loc) : Prop := v = none ∧ RoadKit.Fr n0 L ∧ RoadKit.Keep h h' [x] ∧ RoadKit.Exa Z h' x ST ∧ RoadKit.Fld Z h' x ST "coder" "B" (.int 0) ∧
  ∃ (t : Addr) (kb : ClassId), n0 ≤ t ∧ h.size ≤ t ∧ ¬ t = x ∧ RoadKit.Fld Z h' x ST "value" "[B" (.ref t) ∧ RoadKit.Arv Z h' t kb .byte N (bs.map Value.int) (.int 0)
/-- **new String(chars) AT A CALL, FOR THE WRITER**: a char[] of n known ints, each 0 to 255 -/
theorem backV {p : Program} {l : Launch} {e : Env} {R : Room} {s : State} {args : Array Value} {below : List Frame} {len W : Nat} {Z : State} {a0 : Array Value} {h : Heap} (hZ : Z.Warmed39 s.vm) (hw : ∀ d ∈ words, d.before a0 Z = true) {kI : Nat} (wi : (Jvm.Cond.instantiable ST kI).before a0 Z = true)
    {x b : Addr} {kC : ClassId} {cs bs : List Int32} {d v0 c0 : Value} {z N : Int32} {n n0 : Nat} (hx0 : n0 ≤ x) (hh0 : n0 ≤ h.size) (E : RoadKit.Exa Z h x ST) (V : RoadKit.Fld Z h x ST "value" "[B" v0) (C : RoadKit.Fld Z h x ST "coder" "B" c0) (K : RoadKit.Arv Z h b kC .char N (cs.map Value.int) d) (S : RoadKit.Sta Z h ST "COMPACT_STRINGS" "Z" (.int z)) (hz : ¬ z = 0)
    (hn : cs.length = n) (hN : N = Int32.ofNat n) (l0 : 0 < n) (l2 : n ≤ 4000) (hp : ∀ c ∈ cs, ¬ c < 0 ∧ ¬ (255 : Int32) < c) (hb : bs = cs.map (fun c => c.toInt8.toInt32)) (hfr : 4 ≤ R.frames) (hlo : W + 65 ≤ R.locals) :
    Back l R p e below s args (⟨"java/lang/String", "<init>", "([C)V"⟩ : MethodName) len W (fun P a => a = #[.ref x, .ref b] ∧ P.U.heap = h ∧ P.cells + 1 ≤ R.cells ∧ P.slots + n ≤ R.slots)
      (fun P _ v B => ∃ L, QV Z x N bs h n0 v B.U.heap L ∧ B.locs = P.locs ++ L ∧ B.cells = P.cells + 1 ∧ B.slots = P.slots + n) := by
  subst hn hN hb
  refine Back.mono (backArv hZ hw wi E V C K S hz (n32 (by omega)) l0 (by omega) (fun c hc => (hp c hc).2) hfr hlo) (fun P a hp => hp) (fun P a v B hp hq => ?_)
  obtain ⟨L, ⟨q1, q2, q3, q4, q5, q6, q7, ⟨kb, v1, v2⟩, q9⟩, hl, hc, hs⟩ := hq
  exact ⟨L, ⟨q1, fun y hy => by rw [q2 y hy]; exact hx0, q3, q5, q7, h.size, kb, hh0, Nat.le_refl _, Nat.ne_of_gt E.lt, q6, by rw [List.map_map]; exact v2⟩, hl, hc, hs⟩
end StrChars.Road
end Jvm.Pilot.@@N@@
namespace Jvm.Pilot.@@N@@
open Jvm Jvm.ClassFile Sem Op Lib Jvm.Free Jvm.Stand Jvm.LawKit Jvm.RoadKit Bundle Jvm.Pilot.@@N@@.Jvm.D
/-- what is known of the String constant "" of java/lang/String's own pool: not loaded since the start, or loaded: an empty String -/
def Em (Z : State) (vm : Vm) (h : Heap) : Prop := IB Z vm [] ∨ ∃ (a b : Addr) (k : ClassId), Lit (Z.setVm vm) "java/lang/String" 7 a ∧ Exa Z h a "java/lang/String" ∧ Fld Z h a "java/lang/String" "coder" "B" (.int (0 : Int32)) ∧ Fld Z h a "java/lang/String" "value" "[B" (.ref b) ∧ Arv Z h b k .byte (0 : Int32) (own_bs []) (.int (0 : Int32))
theorem Em.keep {Z : State} {vm : Vm} {h h' : Heap} (M : Em Z vm h) (K : Keep h h' []) : Em Z vm h' := by
  rcases M with I | ⟨a, b, k, L, E, F, G, A⟩
  · exact Or.inl I
  · exact Or.inr ⟨a, b, k, L, E.keep K, F.keep K nin0, G.keep K nin0, A.keep K nin0⟩
theorem Em.warm {Z s : State} {vm vm' : Vm} {h : Heap} (M : Em Z vm h) (hW : (s.setVm vm).WarmedH vm') : Em Z vm' h := by
  rcases M with I | ⟨a, b, k, L, r⟩
  · refine Or.inl ?_
    obtain ⟨more, q1, q2⟩ := I
    exact ⟨more, hW.interned_eq.trans q1, q2⟩
  · have L' : Lit (s.setVm vm) "java/lang/String" 7 a := L
    exact Or.inr ⟨a, b, k, L'.stays hW.wide, r⟩
theorem own_emR {Z T : State} {h : Heap} {fs : List Frame} (e : T.heap = h) (q : Em Z T.vm h) : Em Z (T.setFrames fs).vm (T.setFrames fs).heap := by
  show Em Z T.vm T.heap
  rw [e]; exact q
theorem own_backOfE {l : Launch} {R : Room} {p : Program} {e : Env} {below : List Frame} {s Z : State} {args a0 : Array Value} {h : Heap} {y : MethodName} {bytes : ByteArray} {maxL : Nat} {ret : Option FieldType} {rm : Room} {len W : Nat} {as' : Array Value} {Q : Option Value → Heap → List Loc → Prop}
    (hM : MetFree l y (head1 [Jvm.Cond.code y bytes maxL ret] rm) (fun a U => a = as' ∧ Z.Warmed39 U.vm ∧ U.heap = h ∧ Em Z U.vm h) (fun _ _ _ _ _ => True) (fun _ U o U' => ∃ v L, o = .returned v ∧ Q v U'.heap L ∧ ReturnedEndW U o U' L rm.cells rm.slots ∧ Em Z U'.vm U'.heap))
    (hZ : Z.Warmed39 s.vm) (wc : (Jvm.Cond.code y bytes maxL ret).before a0 Z = true) (wz : (Jvm.Cond.initialized y.cls).before a0 Z = true) (hf : rm.frames + 1 ≤ R.frames) (hl : W + (maxL + 11) + rm.locals ≤ R.locals) :
    BackS l R p e below s args y len W (fun A a => a = as' ∧ A.U.heap = h ∧ A.cells + rm.cells ≤ R.cells ∧ A.slots + rm.slots ≤ R.slots ∧ Em Z A.U.vm h)
      (fun A _ v B => ∃ L, (Q v B.U.heap L ∧ Em Z B.U.vm B.U.heap) ∧ B.locs = A.locs ++ L ∧ B.cells = A.cells + rm.cells ∧ B.slots = A.slots + rm.slots) :=
  BackS.of_freeW (bytes := bytes) (maxL := maxL) (ret := ret) (E := fun _ _ o t L k n => k = rm.cells ∧ n = rm.slots ∧ ∃ v, o = .returned v ∧ Q v t.heap L ∧ Em Z t.vm t.heap) hM hf hl
    (fun m meth c A a Y hp => have hU : Z.Warmed39 A.U.vm := wtrans hZ Y.warmed
      ⟨by show (Jvm.Cond.and _ .tt).before a A.U = true; rw [Cond.before_and, mv hU wc]; rfl, mv hU wc, mv hU wz, hp.2.2.1, hp.2.2.2.1⟩)
    (fun m meth c A a g mk Y hp => ⟨hp.1, wtrans hZ Y.warmed, hp.2.1, hp.2.2.2.2⟩) (fun _ _ _ _ _ _ _ _ _ => trivial)
    (fun _ _ _ _ ⟨v, L, h1, h2, h3, h4⟩ => ⟨L, _, _, h3, rfl, rfl, v, h1, h2, h4⟩)
    (fun m meth c A a g mk v t L k n Y hp _ _ ⟨e1, e2, v', e3, e4⟩ => by cases e3; subst e1 e2; exact ⟨L, e4, rfl, rfl, rfl⟩)
theorem d_jdk_30_method_1_0 : decode jdk_30_method_1_code 0 = .ok (.aload_n 0, 1) := by decide +kernel
theorem d_jdk_30_method_1_1 : decode jdk_30_method_1_code 1 = .ok (.invokespecial 1, 3) := by decide +kernel
theorem d_jdk_30_method_1_4 : decode jdk_30_method_1_code 4 = .ok (.return_, 1) := by decide +kernel
theorem pn_0 : plainName "java/lang/Record" = true := by first | (simp [plainName, overriddenIn]; done) | decide +kernel
theorem d_jdk_42_method_66_0 : decode jdk_42_method_66_code 0 = .ok (.aload_n 0, 1) := by decide +kernel
theorem d_jdk_42_method_66_1 : decode jdk_42_method_66_code 1 = .ok (.aload_n 1, 1) := by decide +kernel
theorem d_jdk_42_method_66_2 : decode jdk_42_method_66_code 2 = .ok (.if_acmp .ne 5, 3) := by decide +kernel
theorem d_jdk_42_method_66_5 : decode jdk_42_method_66_code 5 = .ok (.iconst 1, 1) := by decide +kernel
theorem d_jdk_42_method_66_6 : decode jdk_42_method_66_code 6 = .ok (.ireturn, 1) := by decide +kernel
theorem pn_1 : plainName "java/lang/String" = true := by first | (simp [plainName, overriddenIn]; done) | decide +kernel
theorem d_jdk_42_method_149_0 : decode jdk_42_method_149_code 0 = .ok (.aload_n 0, 1) := by decide +kernel
theorem d_jdk_42_method_149_1 : decode jdk_42_method_149_code 1 = .ok (.invokespecial 1, 3) := by decide +kernel
theorem d_jdk_42_method_149_4 : decode jdk_42_method_149_code 4 = .ok (.iload_n 3, 1) := by decide +kernel
theorem d_jdk_42_method_149_5 : decode jdk_42_method_149_code 5 = .ok (.ifCond .ne 22, 3) := by decide +kernel
theorem d_jdk_42_method_149_8 : decode jdk_42_method_149_code 8 = .ok (.aload_n 0, 1) := by decide +kernel
theorem d_jdk_42_method_149_9 : decode jdk_42_method_149_code 9 = .ok (.ldc 7, 2) := by decide +kernel
theorem d_jdk_42_method_149_11 : decode jdk_42_method_149_code 11 = .ok (.getfield 9, 3) := by decide +kernel
theorem d_jdk_42_method_149_14 : decode jdk_42_method_149_code 14 = .ok (.putfield 9, 3) := by decide +kernel
theorem d_jdk_42_method_149_17 : decode jdk_42_method_149_code 17 = .ok (.aload_n 0, 1) := by decide +kernel
theorem d_jdk_42_method_149_18 : decode jdk_42_method_149_code 18 = .ok (.ldc 7, 2) := by decide +kernel
theorem d_jdk_42_method_149_20 : decode jdk_42_method_149_code 20 = .ok (.getfield 15, 3) := by decide +kernel
theorem d_jdk_42_method_149_23 : decode jdk_42_method_149_code 23 = .ok (.putfield 15, 3) := by decide +kernel
theorem d_jdk_42_method_149_26 : decode jdk_42_method_149_code 26 = .ok (.return_, 1) := by decide +kernel
theorem d_jdk_42_method_3_0 : decode jdk_42_method_3_code 0 = .ok (.aload_n 0, 1) := by decide +kernel
theorem d_jdk_42_method_3_1 : decode jdk_42_method_3_code 1 = .ok (.aload_n 1, 1) := by decide +kernel
theorem d_jdk_42_method_3_2 : decode jdk_42_method_3_code 2 = .ok (.iconst 0, 1) := by decide +kernel
theorem d_jdk_42_method_3_3 : decode jdk_42_method_3_code 3 = .ok (.aload_n 1, 1) := by decide +kernel
theorem d_jdk_42_method_3_4 : decode jdk_42_method_3_code 4 = .ok (.arraylength, 1) := by decide +kernel
theorem d_jdk_42_method_3_5 : decode jdk_42_method_3_code 5 = .ok (.aconst_null, 1) := by decide +kernel
theorem d_jdk_42_method_3_6 : decode jdk_42_method_3_code 6 = .ok (.invokespecial 27, 3) := by decide +kernel
theorem pd_0 : parseMethodDescriptor "([CIILjava/lang/Void;)V" = some ⟨[(.array .char), .int, .int, (.object "java/lang/Void")], none⟩ := by decide +kernel
theorem d_jdk_42_method_3_9 : decode jdk_42_method_3_code 9 = .ok (.return_, 1) := by decide +kernel
theorem d_prog_72_method_2_0 : decode prog_72_method_2_code 0 = .ok (.aload_n 0, 1) := by decide +kernel
theorem d_prog_72_method_2_1 : decode prog_72_method_2_code 1 = .ok (.invokespecial 1, 3) := by decide +kernel
theorem pd_1 : parseMethodDescriptor "()V" = some ⟨[], none⟩ := by decide +kernel
theorem d_prog_72_method_2_4 : decode prog_72_method_2_code 4 = .ok (.aload_n 0, 1) := by decide +kernel
theorem d_prog_72_method_2_5 : decode prog_72_method_2_code 5 = .ok (.aload_n 1, 1) := by decide +kernel
theorem d_prog_72_method_2_6 : decode prog_72_method_2_code 6 = .ok (.putfield 7, 3) := by decide +kernel
theorem d_prog_72_method_2_9 : decode prog_72_method_2_code 9 = .ok (.aload_n 0, 1) := by decide +kernel
theorem d_prog_72_method_2_10 : decode prog_72_method_2_code 10 = .ok (.aload_n 2, 1) := by decide +kernel
theorem d_prog_72_method_2_11 : decode prog_72_method_2_code 11 = .ok (.putfield 13, 3) := by decide +kernel
theorem d_prog_72_method_2_14 : decode prog_72_method_2_code 14 = .ok (.aload_n 0, 1) := by decide +kernel
theorem d_prog_72_method_2_15 : decode prog_72_method_2_code 15 = .ok (.iload_n 3, 1) := by decide +kernel
theorem d_prog_72_method_2_16 : decode prog_72_method_2_code 16 = .ok (.putfield 17, 3) := by decide +kernel
theorem d_prog_72_method_2_19 : decode prog_72_method_2_code 19 = .ok (.return_, 1) := by decide +kernel
theorem pn_2 : plainName "com/example/fieldloom/fieldloom/mapping/Value" = true := by first | (simp [plainName, overriddenIn]; done) | decide +kernel
theorem d_prog_72_method_1_0 : decode prog_72_method_1_code 0 = .ok (.aload_n 0, 1) := by decide +kernel
theorem d_prog_72_method_1_1 : decode prog_72_method_1_code 1 = .ok (.aload_n 1, 1) := by decide +kernel
theorem d_prog_72_method_1_2 : decode prog_72_method_1_code 2 = .ok (.aload_n 2, 1) := by decide +kernel
theorem d_prog_72_method_1_3 : decode prog_72_method_1_code 3 = .ok (.iconst 1, 1) := by decide +kernel
theorem d_prog_72_method_1_4 : decode prog_72_method_1_code 4 = .ok (.invokespecial 21, 3) := by decide +kernel
theorem pd_2 : parseMethodDescriptor "(Ljava/lang/String;Lcom/example/fieldloom/fieldloom/mapping/FieldOccurrence;I)V" = some ⟨[(.object "java/lang/String"), (.object "com/example/fieldloom/fieldloom/mapping/FieldOccurrence"), .int], none⟩ := by decide +kernel
theorem d_prog_72_method_1_7 : decode prog_72_method_1_code 7 = .ok (.return_, 1) := by decide +kernel
theorem d_prog_72_method_5_0 : decode prog_72_method_5_code 0 = .ok (.new 8, 3) := by decide +kernel
theorem d_prog_72_method_5_3 : decode prog_72_method_5_code 3 = .ok (.dup, 1) := by decide +kernel
theorem d_prog_72_method_5_4 : decode prog_72_method_5_code 4 = .ok (.aload_n 1, 1) := by decide +kernel
theorem d_prog_72_method_5_5 : decode prog_72_method_5_code 5 = .ok (.aload_n 0, 1) := by decide +kernel
theorem d_prog_72_method_5_6 : decode prog_72_method_5_code 6 = .ok (.getfield 13, 3) := by decide +kernel
theorem d_prog_72_method_5_9 : decode prog_72_method_5_code 9 = .ok (.invokespecial 24, 3) := by decide +kernel
theorem pd_3 : parseMethodDescriptor "(Ljava/lang/String;Lcom/example/fieldloom/fieldloom/mapping/FieldOccurrence;)V" = some ⟨[(.object "java/lang/String"), (.object "com/example/fieldloom/fieldloom/mapping/FieldOccurrence")], none⟩ := by decide +kernel
theorem d_prog_72_method_5_12 : decode prog_72_method_5_code 12 = .ok (.areturn, 1) := by decide +kernel
theorem d_prog_72_method_9_0 : decode prog_72_method_9_code 0 = .ok (.aload_n 0, 1) := by decide +kernel
theorem d_prog_72_method_9_1 : decode prog_72_method_9_code 1 = .ok (.getfield 7, 3) := by decide +kernel
theorem d_prog_72_method_9_4 : decode prog_72_method_9_code 4 = .ok (.areturn, 1) := by decide +kernel
theorem d_prog_72_method_10_0 : decode prog_72_method_10_code 0 = .ok (.aload_n 0, 1) := by decide +kernel
theorem d_prog_72_method_10_1 : decode prog_72_method_10_code 1 = .ok (.getfield 13, 3) := by decide +kernel
theorem d_prog_72_method_10_4 : decode prog_72_method_10_code 4 = .ok (.areturn, 1) := by decide +kernel
theorem d_prog_72_method_11_0 : decode prog_72_method_11_code 0 = .ok (.aload_n 0, 1) := by decide +kernel
theorem d_prog_72_method_11_1 : decode prog_72_method_11_code 1 = .ok (.getfield 17, 3) := by decide +kernel
theorem d_prog_72_method_11_4 : decode prog_72_method_11_code 4 = .ok (.ireturn, 1) := by decide +kernel
theorem d_prog_44_method_1_0 : decode prog_44_method_1_code 0 = .ok (.aload_n 0, 1) := by decide +kernel
theorem d_prog_44_method_1_1 : decode prog_44_method_1_code 1 = .ok (.invokespecial 1, 3) := by decide +kernel
theorem d_prog_44_method_1_4 : decode prog_44_method_1_code 4 = .ok (.aload_n 0, 1) := by decide +kernel
theorem d_prog_44_method_1_5 : decode prog_44_method_1_code 5 = .ok (.aload_n 1, 1) := by decide +kernel
theorem d_prog_44_method_1_6 : decode prog_44_method_1_code 6 = .ok (.putfield 7, 3) := by decide +kernel
theorem d_prog_44_method_1_9 : decode prog_44_method_1_code 9 = .ok (.aload_n 0, 1) := by decide +kernel
theorem d_prog_44_method_1_10 : decode prog_44_method_1_code 10 = .ok (.iload_n 2, 1) := by decide +kernel
theorem d_prog_44_method_1_11 : decode prog_44_method_1_code 11 = .ok (.putfield 13, 3) := by decide +kernel
theorem d_prog_44_method_1_14 : decode prog_44_method_1_code 14 = .ok (.aload_n 0, 1) := by decide +kernel
theorem d_prog_44_method_1_15 : decode prog_44_method_1_code 15 = .ok (.aload_n 3, 1) := by decide +kernel
theorem d_prog_44_method_1_16 : decode prog_44_method_1_code 16 = .ok (.putfield 17, 3) := by decide +kernel
theorem d_prog_44_method_1_19 : decode prog_44_method_1_code 19 = .ok (.return_, 1) := by decide +kernel
theorem pn_3 : plainName "com/example/fieldloom/fieldloom/mapping/FieldOccurrence" = true := by first | (simp [plainName, overriddenIn]; done) | decide +kernel
theorem pd_4 : parseMethodDescriptor "([C)V" = some ⟨[(.array .char)], none⟩ := by decide +kernel
theorem pd_5 : parseMethodDescriptor "(Ljava/lang/String;)Lcom/example/fieldloom/fieldloom/mapping/Value;" = some ⟨[(.object "java/lang/String")], some (.object "com/example/fieldloom/fieldloom/mapping/Value")⟩ := by decide +kernel
theorem pd_6 : parseMethodDescriptor "()Ljava/lang/String;" = some ⟨[], some (.object "java/lang/String")⟩ := by decide +kernel
theorem pd_7 : parseMethodDescriptor "(Ljava/lang/Object;)Z" = some ⟨[(.object "java/lang/Object")], some .boolean⟩ := by decide +kernel
theorem pd_8 : parseMethodDescriptor "()Lcom/example/fieldloom/fieldloom/mapping/FieldOccurrence;" = some ⟨[], some (.object "com/example/fieldloom/fieldloom/mapping/FieldOccurrence")⟩ := by decide +kernel
theorem pd_9 : parseMethodDescriptor "()I" = some ⟨[], some .int⟩ := by decide +kernel
theorem pd_10 : parseMethodDescriptor "(Ljava/lang/String;ILcom/example/fieldloom/fieldloom/model/DataField;)V" = some ⟨[(.object "java/lang/String"), .int, (.object "com/example/fieldloom/fieldloom/model/DataField")], none⟩ := by decide +kernel
theorem pn_4 : plainName "com/example/fieldloom/fieldloom/mapping/ValueWithTextPinLaw" = true := by first | (simp [plainName, overriddenIn]; done) | decide +kernel
def QRec (Z : State) (a : Addr) (h0 : Heap) (n0 : Nat) (v : Option Value) (h : Heap) (L : List Loc) : Prop := v = none ∧ Fr n0 L ∧ h = h0
theorem ef_Rec (m : MethodId) (a : Addr) : entryFrame m #[(.ref a)] 1 = mkF m 0 #[.val (.ref a)] [] := by first | (simp [entryFrame, mkF, argsToLocals, Value.category]; done) | rfl | (rfl)
set_option maxRecDepth 65536 in
set_option maxHeartbeats 40000000 in
theorem rmRec (l : Launch) (Z : State) (a0 : Array Value) (hw : ∀ d ∈ tables_1, d.before a0 Z = true) (ws : List Jvm.Cond) (a : Addr) (h0 : Heap) (n0 : Nat) (O : Old Z n0 h0)  :
    MetFree l (⟨"java/lang/Record", "<init>", "()V"⟩ : MethodName) (head1 (Jvm.Cond.code (⟨"java/lang/Record", "<init>", "()V"⟩ : MethodName) jdk_30_method_1_code 1 none :: ws) ({ frames := 1, cells := 0, slots := 0, locals := 12 } : Room)) (fun as_ U => as_ = #[(.ref a)] ∧ Z.Warmed39 U.vm ∧ U.heap = h0) (fun _ _ _ _ _ => True) (fun _ U oo_ U' => ∃ vv_ LL_, oo_ = .returned vv_ ∧ QRec Z a h0 n0 vv_ U'.heap LL_ ∧ FrameEnd U oo_ U' LL_ ({ frames := 1, cells := 0, slots := 0, locals := 12 } : Room).cells ({ frames := 1, cells := 0, slots := 0, locals := 12 } : Room).slots) := by
  refine MetFree.of_bodySF (plainFor_of_name pn_0) hisR ?_
  intro p e s m args below meth c s₁ Bd hml0 hP hK
  obtain ⟨rfl, hZ, hh⟩ := hP
  have hx := Bd.exec
  have hby := Bd.bytes
  have hml : c.maxLocals = 1 := hml0
  have hown : s.vm.findClass "java/lang/Record" = some m.cls := findClass_of_methodNamed Bd.named
  have hnm := (name_of_methodNamed Bd.named Bd.method).1
  have X0 : Stand p l e ({ frames := 1, cells := 0, slots := 0, locals := 12 } : Room) s m #[(.ref a)] below meth c s₁ [] 0 0 := Stand.of_body Bd
  have e0 : s₁.heap = h0 := by rw [← hh, Bd.state]; rfl
  have N := Fr.nil n0
  have K : Keep h0 h0 [] := Keep.refl h0 _
  refine own_go (B := s₁.setTop (mkF m 0 #[.val (.ref a)] [])) (fun t k => castTop (ef_Rec m a) k) ?_
  refine own_abs (fun P hfin => ?_)
  refine own_go (B := s₁.setTop (mkF m 1 #[.val (.ref a)] [(.ref a)])) (fun t k => ?_) ?_
  · show Steps p.tables e below (s₁.setTop (mkF m 0 #[.val (.ref a)] [])) _
    refine XS.aloadN X0.here hx rfl (hb hby d_jdk_30_method_1_0) rfl rfl ?_
    show Steps p.tables e below (s₁.setTop (mkF m 1 #[.val (.ref a)] [(.ref a)])) _
    exact k
  obtain ⟨T1, X1, e1, st1⟩ := initO X0 hx hZ hown (hw _ (List.mem_of_getElem? (i := 41) rfl)) (hw _ (List.mem_of_getElem? (i := 12) rfl)) (hw _ (List.mem_of_getElem? (i := 13) rfl)) e0 (g := (mkF m 1 #[.val (.ref a)] [(.ref a)])) rfl (by rw [hml]; rfl) rfl (hb hby d_jdk_30_method_1_1) (by decide) (W := 0) (by show 2 * 0 + _ ≤ _; exact Nat.le_of_eq rfl) (by decide)
  refine own_go (B := T1.setTop (mkF m 4 #[.val (.ref a)] [])) st1 ?_
  obtain ⟨fs, hr, hrun, hended, hW, hsame⟩ := X1.leave (v := none) (fun _ => rfl)
  refine ⟨_, _, X1.returnOut hx Bd.returns (hb hby d_jdk_30_method_1_4) hr, hfin _ _ ⟨hrun, hended, _, _, rfl, ?_, ⟨_, rfl⟩, hW, hsame.mono (by decide) (by decide)⟩⟩
  show QRec Z a h0 n0 _ T1.heap _
  exact ⟨rfl, N, e1⟩
def QEqS (Z : State) (a : Addr) (h0 : Heap) (n0 : Nat) (v : Option Value) (h : Heap) (L : List Loc) : Prop := v = some (.int (1 : Int32)) ∧ Fr n0 L ∧ h = h0
theorem ef_EqS (m : MethodId) (a : Addr) : entryFrame m #[(.ref a), (.ref a)] 3 = mkF m 0 #[.val (.ref a), .val (.ref a), .unset] [] := by first | (simp [entryFrame, mkF, argsToLocals, Value.category]; done) | rfl | (rfl)
set_option maxRecDepth 65536 in
set_option maxHeartbeats 40000000 in
theorem rmEqS (l : Launch) (Z : State) (a0 : Array Value) (hw : ∀ d ∈ tables_1, d.before a0 Z = true) (ws : List Jvm.Cond) (a : Addr) (h0 : Heap) (n0 : Nat) (O : Old Z n0 h0)  :
    MetFree l (⟨"java/lang/String", "equals", "(Ljava/lang/Object;)Z"⟩ : MethodName) (head1 (Jvm.Cond.code (⟨"java/lang/String", "equals", "(Ljava/lang/Object;)Z"⟩ : MethodName) jdk_42_method_66_code 3 (some .boolean) :: ws) ({ frames := 0, cells := 0, slots := 0, locals := 0 } : Room)) (fun as_ U => as_ = #[(.ref a), (.ref a)] ∧ Z.Warmed39 U.vm ∧ U.heap = h0) (fun _ _ _ _ _ => True) (fun _ U oo_ U' => ∃ vv_ LL_, oo_ = .returned vv_ ∧ QEqS Z a h0 n0 vv_ U'.heap LL_ ∧ FrameEnd U oo_ U' LL_ ({ frames := 0, cells := 0, slots := 0, locals := 0 } : Room).cells ({ frames := 0, cells := 0, slots := 0, locals := 0 } : Room).slots) := by
  refine MetFree.of_bodySF (plainFor_of_name pn_1) hisR ?_
  intro p e s m args below meth c s₁ Bd hml0 hP hK
  obtain ⟨rfl, hZ, hh⟩ := hP
  have hx := Bd.exec
  have hby := Bd.bytes
  have hml : c.maxLocals = 3 := hml0
  have hown : s.vm.findClass "java/lang/String" = some m.cls := findClass_of_methodNamed Bd.named
  have hnm := (name_of_methodNamed Bd.named Bd.method).1
  have X0 : Stand p l e ({ frames := 0, cells := 0, slots := 0, locals := 0 } : Room) s m #[(.ref a), (.ref a)] below meth c s₁ [] 0 0 := Stand.of_body Bd
  have e0 : s₁.heap = h0 := by rw [← hh, Bd.state]; rfl
  have N := Fr.nil n0
  have K : Keep h0 h0 [] := Keep.refl h0 _
  refine own_go (B := s₁.setTop (mkF m 0 #[.val (.ref a), .val (.ref a), .unset] [])) (fun t k => castTop (ef_EqS m a) k) ?_
  refine own_abs (fun P hfin => ?_)
  refine own_go (B := s₁.setTop (mkF m 6 #[.val (.ref a), .val (.ref a), .unset] [(.int (1 : Int32))])) (fun t k => ?_) ?_
  · show Steps p.tables e below (s₁.setTop (mkF m 0 #[.val (.ref a), .val (.ref a), .unset] [])) _
    refine XS.aloadN X0.here hx rfl (hb hby d_jdk_42_method_66_0) rfl rfl ?_
    show Steps p.tables e below (s₁.setTop (mkF m 1 #[.val (.ref a), .val (.ref a), .unset] [(.ref a)])) _
    refine XS.aloadN X0.here hx rfl (hb hby d_jdk_42_method_66_1) rfl rfl ?_
    show Steps p.tables e below (s₁.setTop (mkF m 2 #[.val (.ref a), .val (.ref a), .unset] [(.ref a), (.ref a)])) _
    refine Jvm.RoadKit.acmp (g := (mkF m 2 #[.val (.ref a), .val (.ref a), .unset] [(.ref a), (.ref a)])) X0 hx rfl rfl rfl (pc0 := 2) (pc' := 5) (same := true) rfl (hb hby d_jdk_42_method_66_2) rfl (decide_eq_true (congrArg Value.ref rfl)) (by decide) (by decide) ?_
    show Steps p.tables e below (s₁.setTop (mkF m 5 #[.val (.ref a), .val (.ref a), .unset] [])) _
    refine XS.iconst X0.here hx rfl (hb hby d_jdk_42_method_66_5) ?_
    show Steps p.tables e below (s₁.setTop (mkF m 6 #[.val (.ref a), .val (.ref a), .unset] [(.int (1 : Int32))])) _
    exact k
  obtain ⟨fs, hr, hrun, hended, hW, hsame⟩ := X0.leave (v := some (.int (1 : Int32))) (fun h => by rw [Bd.returns] at h; cases h)
  refine ⟨_, _, retN X0 hx (t := .boolean) Bd.returns (by simp) (hb hby d_jdk_42_method_66_6) hr, hfin _ _ ⟨hrun, hended, _, _, rfl, ?_, ⟨_, rfl⟩, hW, hsame.mono (by decide) (by decide)⟩⟩
  show QEqS Z a h0 n0 _ s₁.heap _
  exact ⟨rfl, N, e0⟩
def QSE2 (Z : State) (a : Addr) (b : Addr) (h0 : Heap) (n0 : Nat) (v : Option Value) (h : Heap) (L : List Loc) : Prop := ∃ t : Addr, ∃ k : ClassId, v = none ∧ Fr n0 L ∧ Keep h0 h [a] ∧ Fld Z h a "java/lang/String" "coder" "B" (.int (0 : Int32)) ∧ Fld Z h a "java/lang/String" "value" "[B" (.ref t) ∧ Arv Z h t k .byte (0 : Int32) (own_bs []) (.int (0 : Int32))
theorem ef_SE2 (m : MethodId) (a : Addr) (b : Addr) : entryFrame m #[(.ref a), (.ref b), (.int (0 : Int32)), (.int (0 : Int32)), .null] 6 = mkF m 0 #[.val (.ref a), .val (.ref b), .val (.int (0 : Int32)), .val (.int (0 : Int32)), .val .null, .unset] [] := by first | (simp [entryFrame, mkF, argsToLocals, Value.category]; done) | rfl | (rfl)
set_option maxRecDepth 65536 in
set_option maxHeartbeats 40000000 in
theorem rmSE2 (l : Launch) (Z : State) (a0 : Array Value) (hw : ∀ d ∈ tables_1, d.before a0 Z = true) (ws : List Jvm.Cond) (a : Addr) (b : Addr) (h0 : Heap) (n0 : Nat) (O : Old Z n0 h0) (E : Exa Z h0 a "java/lang/String") (F1 : Fld Z h0 a "java/lang/String" "value" "[B" .null) (F2 : Fld Z h0 a "java/lang/String" "coder" "B" (.int (0 : Int32))) (ga : n0 ≤ a) (hcH : Jvm.Lit.constHeld Z "java/lang/String" 7) (hcw : Jvm.Lit.compactW.before a0 Z = true) :
    MetFree l (⟨"java/lang/String", "<init>", "([CIILjava/lang/Void;)V"⟩ : MethodName) (head1 (Jvm.Cond.code (⟨"java/lang/String", "<init>", "([CIILjava/lang/Void;)V"⟩ : MethodName) jdk_42_method_149_code 6 none :: ws) ({ frames := 1, cells := 2, slots := 4, locals := 12 } : Room)) (fun as_ U => as_ = #[(.ref a), (.ref b), (.int (0 : Int32)), (.int (0 : Int32)), .null] ∧ Z.Warmed39 U.vm ∧ U.heap = h0 ∧ Em Z U.vm h0) (fun _ _ _ _ _ => True) (fun _ U oo_ U' => ∃ vv_ LL_, oo_ = .returned vv_ ∧ QSE2 Z a b h0 n0 vv_ U'.heap LL_ ∧ ReturnedEndW U oo_ U' LL_ ({ frames := 1, cells := 2, slots := 4, locals := 12 } : Room).cells ({ frames := 1, cells := 2, slots := 4, locals := 12 } : Room).slots ∧ Em Z U'.vm U'.heap) := by
  refine MetFree.of_bodySF (plainFor_of_name pn_1) hisR ?_
  intro p e s m args below meth c s₁ Bd hml0 hP hK
  obtain ⟨rfl, hZ, hh, M⟩ := hP
  have hx := Bd.exec
  have hby := Bd.bytes
  have hml : c.maxLocals = 6 := hml0
  have hown : s.vm.findClass "java/lang/String" = some m.cls := findClass_of_methodNamed Bd.named
  have hnm := (name_of_methodNamed Bd.named Bd.method).1
  have X0 : Stand p l e ({ frames := 1, cells := 2, slots := 4, locals := 12 } : Room) (s.setVm s.vm) m #[(.ref a), (.ref b), (.int (0 : Int32)), (.int (0 : Int32)), .null] below meth c s₁ [] 0 0 := Stand.of_body Bd
  have e0 : s₁.heap = h0 := by rw [← hh, Bd.state]; rfl
  have N := Fr.nil n0
  have hown : (s.setVm s.vm).vm.findClass "java/lang/String" = some m.cls := hown
  have hZ : Z.Warmed39 (s.setVm s.vm).vm := hZ
  have hS : s.Since s.vm h0.size := (State.WarmedH.refl s).since _
  have hk : h0.size ≤ h0.size := Nat.le_refl _
  have K : Keep h0 h0 [a] := Keep.refl h0 _
  refine own_go (B := s₁.setTop (mkF m 0 #[.val (.ref a), .val (.ref b), .val (.int (0 : Int32)), .val (.int (0 : Int32)), .val .null, .unset] [])) (fun t k => castTop (ef_SE2 m a b) k) ?_
  have KM : Keep h0 h0 [] := Keep.refl h0 _
  refine own_abs (fun P hfin => ?_)
  refine own_go (B := s₁.setTop (mkF m 1 #[.val (.ref a), .val (.ref b), .val (.int (0 : Int32)), .val (.int (0 : Int32)), .val .null, .unset] [(.ref a)])) (fun t k => ?_) ?_
  · show Steps p.tables e below (s₁.setTop (mkF m 0 #[.val (.ref a), .val (.ref b), .val (.int (0 : Int32)), .val (.int (0 : Int32)), .val .null, .unset] [])) _
    refine XS.aloadN X0.here hx rfl (hb hby d_jdk_42_method_149_0) rfl rfl ?_
    show Steps p.tables e below (s₁.setTop (mkF m 1 #[.val (.ref a), .val (.ref b), .val (.int (0 : Int32)), .val (.int (0 : Int32)), .val .null, .unset] [(.ref a)])) _
    exact k
  obtain ⟨T1, X1, e1, st1⟩ := initO X0 hx hZ hown (hw _ (List.mem_of_getElem? (i := 11) rfl)) (hw _ (List.mem_of_getElem? (i := 12) rfl)) (hw _ (List.mem_of_getElem? (i := 13) rfl)) e0 (g := (mkF m 1 #[.val (.ref a), .val (.ref b), .val (.int (0 : Int32)), .val (.int (0 : Int32)), .val .null, .unset] [(.ref a)])) rfl (by rw [hml]; rfl) rfl (hb hby d_jdk_42_method_149_1) (by decide) (W := 0) (by show 2 * 0 + _ ≤ _; exact Nat.le_of_eq rfl) (by decide)
  refine own_go (B := T1.setTop (mkF m 4 #[.val (.ref a), .val (.ref b), .val (.int (0 : Int32)), .val (.int (0 : Int32)), .val .null, .unset] [])) st1 ?_
  refine own_go (B := T1.setTop (mkF m 9 #[.val (.ref a), .val (.ref b), .val (.int (0 : Int32)), .val (.int (0 : Int32)), .val .null, .unset] [(.ref a)])) (fun t k => ?_) ?_
  · show Steps p.tables e below (T1.setTop (mkF m 4 #[.val (.ref a), .val (.ref b), .val (.int (0 : Int32)), .val (.int (0 : Int32)), .val .null, .unset] [])) _
    refine XS.iloadN X1.here hx rfl (hb hby d_jdk_42_method_149_4) rfl ?_
    show Steps p.tables e below (T1.setTop (mkF m 5 #[.val (.ref a), .val (.ref b), .val (.int (0 : Int32)), .val (.int (0 : Int32)), .val .null, .unset] [(.int (0 : Int32))])) _
    refine XS.ifNo X1.here hx rfl (hb hby d_jdk_42_method_149_5) rfl ((if0 _ _).trans (teq (by decide)).2) ?_
    show Steps p.tables e below (T1.setTop (mkF m 8 #[.val (.ref a), .val (.ref b), .val (.int (0 : Int32)), .val (.int (0 : Int32)), .val .null, .unset] [])) _
    refine XS.aloadN X1.here hx rfl (hb hby d_jdk_42_method_149_8) rfl rfl ?_
    show Steps p.tables e below (T1.setTop (mkF m 9 #[.val (.ref a), .val (.ref b), .val (.int (0 : Int32)), .val (.int (0 : Int32)), .val .null, .unset] [(.ref a)])) _
    exact k
  rcases M with I | ⟨ca, cb, ck, LL, Ec, Fc, Fv, Vb⟩
  · have hkeep : ∀ (b : Addr) (cl : Cell), Z.heap[b]? = some cl → s.heap[b]? = some cl := fun b cl q => by rw [hh]; exact O.2.2 b cl q
    obtain ⟨ca, T2, h2, k2, cb, ck, X2, e2, E2, hS, hk', hZ, hown, Ec, Fc, Fv, Vb, -, -, -, LL, st2⟩ := ldcSVL X1 hx hZ hown (hw _ (List.mem_of_getElem? (i := 91) rfl)) (fun d hd => hw d ((by decide +kernel : ∀ d ∈ Bundle.stringAtoms, d ∈ tables_1) d hd)) e1 hS hk (Fr.nil _) hkeep I (by simp) hcH hcw (vs := []) (z := 0) ⟨by simp, rfl⟩ (by decide) rfl (g := (mkF m 9 #[.val (.ref a), .val (.ref b), .val (.int (0 : Int32)), .val (.int (0 : Int32)), .val .null, .unset] [(.ref a)])) rfl (hb hby d_jdk_42_method_149_9) (n := 0) (by decide) (by decide) (by decide) (by decide)
    replace E := E.ext E2
    replace F1 := F1.ext E2
    replace F2 := F2.ext E2
    replace O := O.ext E2
    replace hk := Nat.le_trans hk E2.1
    replace KM := KM.ext E2
    replace K := K.ext E2
    replace hk := hk'
    replace Vb : Arv Z h2 cb ck .byte (0 : Int32) (own_bs []) (.int (0 : Int32)) := Vb
    refine own_go (B := T2.setTop (mkF m 11 #[.val (.ref a), .val (.ref b), .val (.int (0 : Int32)), .val (.int (0 : Int32)), .val .null, .unset] [(.ref ca), (.ref a)])) st2 ?_
    have ne_ca : ca ≠ a := Fld.ne Fv F1 (by simp)
    have ne_cb : cb ≠ a := Ne.symm (E.neArv Vb (hw _ (List.mem_of_getElem? (i := 2) rfl)))
    obtain ⟨T3, X3, e3, st3⟩ := getF X2 hx hZ hown (host := "") (Or.inl (hw _ (List.mem_of_getElem? (i := 28) rfl))) Via.refl e2 Fv (g := (mkF m 11 #[.val (.ref a), .val (.ref b), .val (.int (0 : Int32)), .val (.int (0 : Int32)), .val .null, .unset] [(.ref ca), (.ref a)])) rfl rfl (hb hby d_jdk_42_method_149_11)
    refine own_go (B := T3.setTop (mkF m 14 #[.val (.ref a), .val (.ref b), .val (.int (0 : Int32)), .val (.int (0 : Int32)), .val .null, .unset] [(.ref cb), (.ref a)])) st3 ?_
    obtain ⟨T4, h4, X4, e4, W4, st4⟩ := putF X3 hx hZ hown (host := "") (Or.inl (hw _ (List.mem_of_getElem? (i := 28) rfl))) Via.refl e3 F1 E (Or.inr ⟨(hw _ (List.mem_of_getElem? (i := 29) rfl)), rfl, hnm⟩) (hw _ (List.mem_of_getElem? (i := 2) rfl)) (ty := (.array .byte)) (by decide) rfl rfl (g := (mkF m 14 #[.val (.ref a), .val (.ref b), .val (.int (0 : Int32)), .val (.int (0 : Int32)), .val .null, .unset] [(.ref cb), (.ref a)])) rfl rfl (hb hby d_jdk_42_method_149_14)
    have Fw4 := F1.same W4
    replace E := E.wr W4
    clear F1
    replace F2 := F2.other W4 (Or.inr (slot_ne (Or.inr (hw _ (List.mem_of_getElem? (i := 27) rfl))) (Or.inr (hw _ (List.mem_of_getElem? (i := 29) rfl))) (by decide) (t := .byte) (t' := (.array .byte)) (by decide) (by decide)))
    replace Ec := Ec.wr W4
    replace Fc := Fc.other W4 (Or.inl ne_ca)
    replace Fv := Fv.other W4 (Or.inl ne_ca)
    replace Vb := Vb.other W4 ne_cb
    replace O := O.wr W4 ga
    replace hk := Nat.le_trans hk (Keep.of_wr W4).1
    replace K := K.wr W4 (Or.inl (List.mem_of_getElem? (i := 0) rfl))
    replace N := Fr.snoc X4 N ga
    refine own_go (B := T4.setTop (mkF m 17 #[.val (.ref a), .val (.ref b), .val (.int (0 : Int32)), .val (.int (0 : Int32)), .val .null, .unset] [])) st4 ?_
    refine own_go (B := T4.setTop (mkF m 18 #[.val (.ref a), .val (.ref b), .val (.int (0 : Int32)), .val (.int (0 : Int32)), .val .null, .unset] [(.ref a)])) (fun t k => ?_) ?_
    · show Steps p.tables e below (T4.setTop (mkF m 17 #[.val (.ref a), .val (.ref b), .val (.int (0 : Int32)), .val (.int (0 : Int32)), .val .null, .unset] [])) _
      refine XS.aloadN X4.here hx rfl (hb hby d_jdk_42_method_149_17) rfl rfl ?_
      show Steps p.tables e below (T4.setTop (mkF m 18 #[.val (.ref a), .val (.ref b), .val (.int (0 : Int32)), .val (.int (0 : Int32)), .val .null, .unset] [(.ref a)])) _
      exact k
    have st5 := ldcAgain X4 hx hZ hown (hw _ (List.mem_of_getElem? (i := 91) rfl)) LL (g := (mkF m 18 #[.val (.ref a), .val (.ref b), .val (.int (0 : Int32)), .val (.int (0 : Int32)), .val .null, .unset] [(.ref a)])) rfl (hb hby d_jdk_42_method_149_18)
    refine own_go (B := T4.setTop (mkF m 20 #[.val (.ref a), .val (.ref b), .val (.int (0 : Int32)), .val (.int (0 : Int32)), .val .null, .unset] [(.ref ca), (.ref a)])) st5 ?_
    obtain ⟨T6, X6, e6, st6⟩ := getF X4 hx hZ hown (host := "") (Or.inl (hw _ (List.mem_of_getElem? (i := 26) rfl))) Via.refl e4 Fc (g := (mkF m 20 #[.val (.ref a), .val (.ref b), .val (.int (0 : Int32)), .val (.int (0 : Int32)), .val .null, .unset] [(.ref ca), (.ref a)])) rfl rfl (hb hby d_jdk_42_method_149_20)
    refine own_go (B := T6.setTop (mkF m 23 #[.val (.ref a), .val (.ref b), .val (.int (0 : Int32)), .val (.int (0 : Int32)), .val .null, .unset] [(.int (0 : Int32)), (.ref a)])) st6 ?_
    obtain ⟨T7, h7, X7, e7, W7, st7⟩ := putFN X6 hx hZ hown (hw _ (List.mem_of_getElem? (i := 26) rfl)) Via.refl e6 F2 E (Or.inr ⟨(hw _ (List.mem_of_getElem? (i := 27) rfl)), rfl, hnm⟩) (hw _ (List.mem_of_getElem? (i := 2) rfl)) (ty := .byte) (v' := (.int (0 : Int32))) (by decide) rfl rfl (g := (mkF m 23 #[.val (.ref a), .val (.ref b), .val (.int (0 : Int32)), .val (.int (0 : Int32)), .val .null, .unset] [(.int (0 : Int32)), (.ref a)])) rfl rfl (hb hby d_jdk_42_method_149_23)
    have Fw7 := F2.same W7
    replace E := E.wr W7
    clear F2
    replace Ec := Ec.wr W7
    replace Fc := Fc.other W7 (Or.inl ne_ca)
    replace Fv := Fv.other W7 (Or.inl ne_ca)
    replace Vb := Vb.other W7 ne_cb
    replace Fw4 := Fw4.other W7 (Or.inr (slot_ne (Or.inr (hw _ (List.mem_of_getElem? (i := 29) rfl))) (Or.inr (hw _ (List.mem_of_getElem? (i := 27) rfl))) (by decide) (t := (.array .byte)) (t' := .byte) (by decide) (by decide)))
    replace O := O.wr W7 ga
    replace hk := Nat.le_trans hk (Keep.of_wr W7).1
    replace K := K.wr W7 (Or.inl (List.mem_of_getElem? (i := 0) rfl))
    replace N := Fr.snoc X7 N ga
    refine own_go (B := T7.setTop (mkF m 26 #[.val (.ref a), .val (.ref b), .val (.int (0 : Int32)), .val (.int (0 : Int32)), .val .null, .unset] [])) st7 ?_
    have M : Em Z T2.vm h7 := Or.inr ⟨ca, cb, ck, LL, Ec, Fc, Fv, Vb⟩
    have KM : Keep h7 h7 [] := Keep.refl _ _
    obtain ⟨fs, hr, hrun, hended, hEnd⟩ := X7.leaveW hS (by rw [e7]; exact hk) (v := none) (fun _ => rfl)
    refine ⟨_, _, X7.returnOut hx Bd.returns (hb hby d_jdk_42_method_149_26) hr, hfin _ _ ⟨hrun, hended, _, _, rfl, ?_, ⟨hEnd.1, hEnd.2.1, hEnd.2.2.1, hEnd.2.2.2.mono (by decide) (by decide)⟩, own_emR e7 (Em.warm M X7.warmed)⟩⟩
    show QSE2 Z a b h0 n0 _ T7.heap _
    rw [e7]
    exact ⟨cb, ck, rfl, N, K, Fw7, Fw4, Vb⟩
  · replace LL : Lit (s.setVm s.vm) "java/lang/String" 7 ca := LL
    have st9 := ldcAgain X1 hx hZ hown (hw _ (List.mem_of_getElem? (i := 91) rfl)) LL (g := (mkF m 9 #[.val (.ref a), .val (.ref b), .val (.int (0 : Int32)), .val (.int (0 : Int32)), .val .null, .unset] [(.ref a)])) rfl (hb hby d_jdk_42_method_149_9)
    refine own_go (B := T1.setTop (mkF m 11 #[.val (.ref a), .val (.ref b), .val (.int (0 : Int32)), .val (.int (0 : Int32)), .val .null, .unset] [(.ref ca), (.ref a)])) st9 ?_
    have ne_ca : ca ≠ a := Fld.ne Fv F1 (by simp)
    have ne_cb : cb ≠ a := Ne.symm (E.neArv Vb (hw _ (List.mem_of_getElem? (i := 2) rfl)))
    obtain ⟨T10, X10, e10, st10⟩ := getF X1 hx hZ hown (host := "") (Or.inl (hw _ (List.mem_of_getElem? (i := 28) rfl))) Via.refl e1 Fv (g := (mkF m 11 #[.val (.ref a), .val (.ref b), .val (.int (0 : Int32)), .val (.int (0 : Int32)), .val .null, .unset] [(.ref ca), (.ref a)])) rfl rfl (hb hby d_jdk_42_method_149_11)
    refine own_go (B := T10.setTop (mkF m 14 #[.val (.ref a), .val (.ref b), .val (.int (0 : Int32)), .val (.int (0 : Int32)), .val .null, .unset] [(.ref cb), (.ref a)])) st10 ?_
    obtain ⟨T11, h11, X11, e11, W11, st11⟩ := putF X10 hx hZ hown (host := "") (Or.inl (hw _ (List.mem_of_getElem? (i := 28) rfl))) Via.refl e10 F1 E (Or.inr ⟨(hw _ (List.mem_of_getElem? (i := 29) rfl)), rfl, hnm⟩) (hw _ (List.mem_of_getElem? (i := 2) rfl)) (ty := (.array .byte)) (by decide) rfl rfl (g := (mkF m 14 #[.val (.ref a), .val (.ref b), .val (.int (0 : Int32)), .val (.int (0 : Int32)), .val .null, .unset] [(.ref cb), (.ref a)])) rfl rfl (hb hby d_jdk_42_method_149_14)
    have Fw11 := F1.same W11
    replace E := E.wr W11
    clear F1
    replace F2 := F2.other W11 (Or.inr (slot_ne (Or.inr (hw _ (List.mem_of_getElem? (i := 27) rfl))) (Or.inr (hw _ (List.mem_of_getElem? (i := 29) rfl))) (by decide) (t := .byte) (t' := (.array .byte)) (by decide) (by decide)))
    replace Ec := Ec.wr W11
    replace Fc := Fc.other W11 (Or.inl ne_ca)
    replace Fv := Fv.other W11 (Or.inl ne_ca)
    replace Vb := Vb.other W11 ne_cb
    replace O := O.wr W11 ga
    replace hk := Nat.le_trans hk (Keep.of_wr W11).1
    replace K := K.wr W11 (Or.inl (List.mem_of_getElem? (i := 0) rfl))
    replace N := Fr.snoc X11 N ga
    refine own_go (B := T11.setTop (mkF m 17 #[.val (.ref a), .val (.ref b), .val (.int (0 : Int32)), .val (.int (0 : Int32)), .val .null, .unset] [])) st11 ?_
    refine own_go (B := T11.setTop (mkF m 18 #[.val (.ref a), .val (.ref b), .val (.int (0 : Int32)), .val (.int (0 : Int32)), .val .null, .unset] [(.ref a)])) (fun t k => ?_) ?_
    · show Steps p.tables e below (T11.setTop (mkF m 17 #[.val (.ref a), .val (.ref b), .val (.int (0 : Int32)), .val (.int (0 : Int32)), .val .null, .unset] [])) _
      refine XS.aloadN X11.here hx rfl (hb hby d_jdk_42_method_149_17) rfl rfl ?_
      show Steps p.tables e below (T11.setTop (mkF m 18 #[.val (.ref a), .val (.ref b), .val (.int (0 : Int32)), .val (.int (0 : Int32)), .val .null, .unset] [(.ref a)])) _
      exact k
    have st12 := ldcAgain X11 hx hZ hown (hw _ (List.mem_of_getElem? (i := 91) rfl)) LL (g := (mkF m 18 #[.val (.ref a), .val (.ref b), .val (.int (0 : Int32)), .val (.int (0 : Int32)), .val .null, .unset] [(.ref a)])) rfl (hb hby d_jdk_42_method_149_18)
    refine own_go (B := T11.setTop (mkF m 20 #[.val (.ref a), .val (.ref b), .val (.int (0 : Int32)), .val (.int (0 : Int32)), .val .null, .unset] [(.ref ca), (.ref a)])) st12 ?_
    obtain ⟨T13, X13, e13, st13⟩ := getF X11 hx hZ hown (host := "") (Or.inl (hw _ (List.mem_of_getElem? (i := 26) rfl))) Via.refl e11 Fc (g := (mkF m 20 #[.val (.ref a), .val (.ref b), .val (.int (0 : Int32)), .val (.int (0 : Int32)), .val .null, .unset] [(.ref ca), (.ref a)])) rfl rfl (hb hby d_jdk_42_method_149_20)
    refine own_go (B := T13.setTop (mkF m 23 #[.val (.ref a), .val (.ref b), .val (.int (0 : Int32)), .val (.int (0 : Int32)), .val .null, .unset] [(.int (0 : Int32)), (.ref a)])) st13 ?_
    obtain ⟨T14, h14, X14, e14, W14, st14⟩ := putFN X13 hx hZ hown (hw _ (List.mem_of_getElem? (i := 26) rfl)) Via.refl e13 F2 E (Or.inr ⟨(hw _ (List.mem_of_getElem? (i := 27) rfl)), rfl, hnm⟩) (hw _ (List.mem_of_getElem? (i := 2) rfl)) (ty := .byte) (v' := (.int (0 : Int32))) (by decide) rfl rfl (g := (mkF m 23 #[.val (.ref a), .val (.ref b), .val (.int (0 : Int32)), .val (.int (0 : Int32)), .val .null, .unset] [(.int (0 : Int32)), (.ref a)])) rfl rfl (hb hby d_jdk_42_method_149_23)
    have Fw14 := F2.same W14
    replace E := E.wr W14
    clear F2
    replace Ec := Ec.wr W14
    replace Fc := Fc.other W14 (Or.inl ne_ca)
    replace Fv := Fv.other W14 (Or.inl ne_ca)
    replace Vb := Vb.other W14 ne_cb
    replace Fw11 := Fw11.other W14 (Or.inr (slot_ne (Or.inr (hw _ (List.mem_of_getElem? (i := 29) rfl))) (Or.inr (hw _ (List.mem_of_getElem? (i := 27) rfl))) (by decide) (t := (.array .byte)) (t' := .byte) (by decide) (by decide)))
    replace O := O.wr W14 ga
    replace hk := Nat.le_trans hk (Keep.of_wr W14).1
    replace K := K.wr W14 (Or.inl (List.mem_of_getElem? (i := 0) rfl))
    replace N := Fr.snoc X14 N ga
    refine own_go (B := T14.setTop (mkF m 26 #[.val (.ref a), .val (.ref b), .val (.int (0 : Int32)), .val (.int (0 : Int32)), .val .null, .unset] [])) st14 ?_
    have M : Em Z s.vm h14 := Or.inr ⟨ca, cb, ck, LL, Ec, Fc, Fv, Vb⟩
    have KM : Keep h14 h14 [] := Keep.refl _ _
    obtain ⟨fs, hr, hrun, hended, hEnd⟩ := X14.leaveW hS (by rw [e14]; exact hk) (v := none) (fun _ => rfl)
    refine ⟨_, _, X14.returnOut hx Bd.returns (hb hby d_jdk_42_method_149_26) hr, hfin _ _ ⟨hrun, hended, _, _, rfl, ?_, ⟨hEnd.1, hEnd.2.1, hEnd.2.2.1, hEnd.2.2.2.mono (by decide) (by decide)⟩, own_emR e14 (Em.warm M X14.warmed)⟩⟩
    show QSE2 Z a b h0 n0 _ T14.heap _
    rw [e14]
    exact ⟨cb, ck, rfl, N, K, Fw14, Fw11, Vb⟩
def QSE1 (Z : State) (a : Addr) (b : Addr) (kc : ClassId) (vs : List Value) (dv : Value) (h0 : Heap) (n0 : Nat) (v : Option Value) (h : Heap) (L : List Loc) : Prop := ∃ t : Addr, ∃ k : ClassId, v = none ∧ Fr n0 L ∧ Keep h0 h [a] ∧ Fld Z h a "java/lang/String" "coder" "B" (.int (0 : Int32)) ∧ Fld Z h a "java/lang/String" "value" "[B" (.ref t) ∧ Arv Z h t k .byte (0 : Int32) (own_bs []) (.int (0 : Int32))
theorem ef_SE1 (m : MethodId) (a : Addr) (b : Addr) : entryFrame m #[(.ref a), (.ref b)] 2 = mkF m 0 #[.val (.ref a), .val (.ref b)] [] := by first | (simp [entryFrame, mkF, argsToLocals, Value.category]; done) | rfl | (rfl)
set_option maxRecDepth 65536 in
set_option maxHeartbeats 40000000 in
theorem rmSE1 (l : Launch) (Z : State) (a0 : Array Value) (hw : ∀ d ∈ tables_1, d.before a0 Z = true) (ws : List Jvm.Cond) (a : Addr) (b : Addr) (kc : ClassId) (vs : List Value) (dv : Value) (h0 : Heap) (n0 : Nat) (O : Old Z n0 h0) (E : Exa Z h0 a "java/lang/String") (F1 : Fld Z h0 a "java/lang/String" "value" "[B" .null) (F2 : Fld Z h0 a "java/lang/String" "coder" "B" (.int (0 : Int32))) (ga : n0 ≤ a) (V : Arv Z h0 b kc .char (0 : Int32) vs dv) (hcH : Jvm.Lit.constHeld Z "java/lang/String" 7) (hcw : Jvm.Lit.compactW.before a0 Z = true) :
    MetFree l (⟨"java/lang/String", "<init>", "([C)V"⟩ : MethodName) (head1 (Jvm.Cond.code (⟨"java/lang/String", "<init>", "([C)V"⟩ : MethodName) jdk_42_method_3_code 2 none :: ws) ({ frames := 2, cells := 2, slots := 4, locals := 29 } : Room)) (fun as_ U => as_ = #[(.ref a), (.ref b)] ∧ Z.Warmed39 U.vm ∧ U.heap = h0 ∧ Em Z U.vm h0) (fun _ _ _ _ _ => True) (fun _ U oo_ U' => ∃ vv_ LL_, oo_ = .returned vv_ ∧ QSE1 Z a b kc vs dv h0 n0 vv_ U'.heap LL_ ∧ ReturnedEndW U oo_ U' LL_ ({ frames := 2, cells := 2, slots := 4, locals := 29 } : Room).cells ({ frames := 2, cells := 2, slots := 4, locals := 29 } : Room).slots ∧ Em Z U'.vm U'.heap) := by
  refine MetFree.of_bodySF (plainFor_of_name pn_1) hisR ?_
  intro p e s m args below meth c s₁ Bd hml0 hP hK
  obtain ⟨rfl, hZ, hh, M⟩ := hP
  have hx := Bd.exec
  have hby := Bd.bytes
  have hml : c.maxLocals = 2 := hml0
  have hown : s.vm.findClass "java/lang/String" = some m.cls := findClass_of_methodNamed Bd.named
  have hnm := (name_of_methodNamed Bd.named Bd.method).1
  have X0 : Stand p l e ({ frames := 2, cells := 2, slots := 4, locals := 29 } : Room) (s.setVm s.vm) m #[(.ref a), (.ref b)] below meth c s₁ [] 0 0 := Stand.of_body Bd
  have e0 : s₁.heap = h0 := by rw [← hh, Bd.state]; rfl
  have N := Fr.nil n0
  have hown : (s.setVm s.vm).vm.findClass "java/lang/String" = some m.cls := hown
  have hZ : Z.Warmed39 (s.setVm s.vm).vm := hZ
  have hS : s.Since s.vm h0.size := (State.WarmedH.refl s).since _
  have hk : h0.size ≤ h0.size := Nat.le_refl _
  have K : Keep h0 h0 [a] := Keep.refl h0 _
  refine own_go (B := s₁.setTop (mkF m 0 #[.val (.ref a), .val (.ref b)] [])) (fun t k => castTop (ef_SE1 m a b) k) ?_
  have KM : Keep h0 h0 [] := Keep.refl h0 _
  refine own_abs (fun P hfin => ?_)
  refine own_go (B := s₁.setTop (mkF m 4 #[.val (.ref a), .val (.ref b)] [(.ref b), (.int (0 : Int32)), (.ref b), (.ref a)])) (fun t k => ?_) ?_
  · show Steps p.tables e below (s₁.setTop (mkF m 0 #[.val (.ref a), .val (.ref b)] [])) _
    refine XS.aloadN X0.here hx rfl (hb hby d_jdk_42_method_3_0) rfl rfl ?_
    show Steps p.tables e below (s₁.setTop (mkF m 1 #[.val (.ref a), .val (.ref b)] [(.ref a)])) _
    refine XS.aloadN X0.here hx rfl (hb hby d_jdk_42_method_3_1) rfl rfl ?_
    show Steps p.tables e below (s₁.setTop (mkF m 2 #[.val (.ref a), .val (.ref b)] [(.ref b), (.ref a)])) _
    refine XS.iconst X0.here hx rfl (hb hby d_jdk_42_method_3_2) ?_
    show Steps p.tables e below (s₁.setTop (mkF m 3 #[.val (.ref a), .val (.ref b)] [(.int (0 : Int32)), (.ref b), (.ref a)])) _
    refine XS.aloadN X0.here hx rfl (hb hby d_jdk_42_method_3_3) rfl rfl ?_
    show Steps p.tables e below (s₁.setTop (mkF m 4 #[.val (.ref a), .val (.ref b)] [(.ref b), (.int (0 : Int32)), (.ref b), (.ref a)])) _
    exact k
  have st1 : ∀ target, Steps p.tables e below (s₁.setTop (mkF m 5 #[.val (.ref a), .val (.ref b)] [(.int (0 : Int32)), (.int (0 : Int32)), (.ref b), (.ref a)])) target → Steps p.tables e below (s₁.setTop (mkF m 4 #[.val (.ref a), .val (.ref b)] [(.ref b), (.int (0 : Int32)), (.ref b), (.ref a)])) target := by
    obtain ⟨cl, Ar, q, Sz, Nn, Hs, Gt⟩ := V
    intro target kt
    refine X0.arraylength hx (by rw [e0]; exact Ar.1) (State.isArrayOf_alike hZ.alike Ar.2.1) (g := (mkF m 4 #[.val (.ref a), .val (.ref b)] [(.ref b), (.int (0 : Int32)), (.ref b), (.ref a)])) rfl rfl (hb hby d_jdk_42_method_3_4) _ ?_
    rw [len_of Sz Nn]
    exact kt
  refine own_go (B := s₁.setTop (mkF m 5 #[.val (.ref a), .val (.ref b)] [(.int (0 : Int32)), (.int (0 : Int32)), (.ref b), (.ref a)])) st1 ?_
  refine own_go (B := s₁.setTop (mkF m 6 #[.val (.ref a), .val (.ref b)] [.null, (.int (0 : Int32)), (.int (0 : Int32)), (.ref b), (.ref a)])) (fun t k => ?_) ?_
  · show Steps p.tables e below (s₁.setTop (mkF m 5 #[.val (.ref a), .val (.ref b)] [(.int (0 : Int32)), (.int (0 : Int32)), (.ref b), (.ref a)])) _
    refine XS.aconstNull X0.here hx rfl (hb hby d_jdk_42_method_3_5) ?_
    show Steps p.tables e below (s₁.setTop (mkF m 6 #[.val (.ref a), .val (.ref b)] [.null, (.int (0 : Int32)), (.int (0 : Int32)), (.ref b), (.ref a)])) _
    exact k
  clear V
  -- pc 6: java/lang/String.<init>
  obtain ⟨_, _, ⟨T2, L2, k2, n2⟩, -, X2, hSq2, hgq2, ⟨Lc2, hQ2, l2, y2, z2⟩, st2⟩ := X0.specialBackS hx (y := (⟨"java/lang/String", "<init>", "([CIILjava/lang/Void;)V"⟩ : MethodName)) rfl hown (mvT hZ (hw _ (List.mem_of_getElem? (i := 7) rfl))) (mvT hZ (hw _ (List.mem_of_getElem? (i := 8) rfl))) (mvT hZ (hw _ (List.mem_of_getElem? (i := 10) rfl))) (by decide) (own_backOfE (W := 0) (rmSE2 l Z a0 hw [] a b h0 n0 O E F1 F2 ga hcH hcw) hZ (hw _ (List.mem_of_getElem? (i := 10) rfl)) (hw _ (List.mem_of_getElem? (i := 3) rfl)) (by decide) (by decide)) (g := (mkF m 6 #[.val (.ref a), .val (.ref b)] [.null, (.int (0 : Int32)), (.int (0 : Int32)), (.ref b), (.ref a)])) rfl (by rw [hml]; rfl) (Steps.refl _) (a := a) (argsL := [(.ref b), (.int (0 : Int32)), (.int (0 : Int32)), .null]) (rest := []) (lenOf pd_0 rfl) rfl (by show 2 * 0 + _ ≤ _; exact Nat.le_of_eq rfl) (hb hby d_jdk_42_method_3_6) (fun _ hWm => ⟨rfl, e0, (by decide : 0 + 2 ≤ _), (by decide : 0 + 4 ≤ _), Em.warm M hWm⟩)
  dsimp only [Pt.U, Pt.locs, Pt.cells, Pt.slots] at X2 l2 y2 z2 st2 hQ2 hSq2 hgq2
  subst l2 y2 z2
  obtain ⟨X2, hS, hZ, hown⟩ := rebS hS (by rw [e0]; exact hk) X2 hSq2 hgq2 hZ hown
  obtain ⟨⟨t2, k2, rfl, Nq2, Kq2, Gq2_0, Gq2_1, Gq2_2⟩, M⟩ := hQ2
  replace N := Fr.app N Nq2
  replace E := E.keep Kq2
  clear F1
  clear F2
  replace O := O.keep Kq2 (allS ga all0)
  replace K := K.trans Kq2 (allS (Or.inl (List.mem_of_getElem? (i := 0) rfl)) all0)
  have hk : T2.heap.size ≤ T2.heap.size := Nat.le_refl _
  have KM : Keep T2.heap T2.heap [] := Keep.refl _ _
  refine own_go (B := T2.setTop (mkF m 9 #[.val (.ref a), .val (.ref b)] [])) (fun t k => st2.trans k) ?_
  obtain ⟨fs, hr, hrun, hended, hEnd⟩ := X2.leaveW hS hk (v := none) (fun _ => rfl)
  refine ⟨_, _, X2.returnOut hx Bd.returns (hb hby d_jdk_42_method_3_9) hr, hfin _ _ ⟨hrun, hended, _, _, rfl, ?_, ⟨hEnd.1, hEnd.2.1, hEnd.2.2.1, hEnd.2.2.2.mono (by decide) (by decide)⟩, own_emR rfl (Em.warm M X2.warmed)⟩⟩
  show QSE1 Z a b kc vs dv h0 n0 _ T2.heap _
  exact ⟨t2, k2, rfl, N, K, Gq2_0, Gq2_1, Gq2_2⟩
def QV3 (Z : State) (a : Addr) (x1 : Value) (x2 : Value) (p1 : Int32) (h0 : Heap) (n0 : Nat) (v : Option Value) (h : Heap) (L : List Loc) : Prop := v = none ∧ Fr n0 L ∧ Keep h0 h [a] ∧ Fld Z h a "com/example/fieldloom/fieldloom/mapping/Value" "text" "Ljava/lang/String;" x1 ∧ Fld Z h a "com/example/fieldloom/fieldloom/mapping/Value" "occurrence" "Lcom/example/fieldloom/fieldloom/mapping/FieldOccurrence;" x2 ∧ Fld Z h a "com/example/fieldloom/fieldloom/mapping/Value" "position" "I" (.int p1)
theorem ef_V3 (m : MethodId) (a : Addr) (x1 : Value) (x2 : Value) (p1 : Int32) (i1 : x1.isRef = true) (i2 : x2.isRef = true) : entryFrame m #[(.ref a), x1, x2, (.int p1)] 4 = mkF m 0 #[.val (.ref a), .val x1, .val x2, .val (.int p1)] [] := by first | (simp [entryFrame, mkF, argsToLocals, Value.category]; done) | rfl | (rcases Jvm.Free.XT.refc i1 with rfl | ⟨_, rfl⟩ <;> rcases Jvm.Free.XT.refc i2 with rfl | ⟨_, rfl⟩ <;> rfl)
set_option maxRecDepth 65536 in
set_option maxHeartbeats 40000000 in
theorem rmV3 (l : Launch) (Z : State) (a0 : Array Value) (hw : ∀ d ∈ tables_1, d.before a0 Z = true) (ws : List Jvm.Cond) (a : Addr) (x1 : Value) (x2 : Value) (p1 : Int32) (h0 : Heap) (n0 : Nat) (O : Old Z n0 h0) (E : Exa Z h0 a "com/example/fieldloom/fieldloom/mapping/Value") (F0 : Fld Z h0 a "com/example/fieldloom/fieldloom/mapping/Value" "text" "Ljava/lang/String;" .null) (F1 : Fld Z h0 a "com/example/fieldloom/fieldloom/mapping/Value" "occurrence" "Lcom/example/fieldloom/fieldloom/mapping/FieldOccurrence;" .null) (F2 : Fld Z h0 a "com/example/fieldloom/fieldloom/mapping/Value" "position" "I" (.int (0 : Int32))) (ga : n0 ≤ a) (i1 : x1.isRef = true) (i2 : x2.isRef = true) :
    MetFree l (⟨"com/example/fieldloom/fieldloom/mapping/Value", "<init>", "(Ljava/lang/String;Lcom/example/fieldloom/fieldloom/mapping/FieldOccurrence;I)V"⟩ : MethodName) (head1 (Jvm.Cond.code (⟨"com/example/fieldloom/fieldloom/mapping/Value", "<init>", "(Ljava/lang/String;Lcom/example/fieldloom/fieldloom/mapping/FieldOccurrence;I)V"⟩ : MethodName) prog_72_method_2_code 4 none :: ws) ({ frames := 2, cells := 0, slots := 0, locals := 24 } : Room)) (fun as_ U => as_ = #[(.ref a), x1, x2, (.int p1)] ∧ Z.Warmed39 U.vm ∧ U.heap = h0) (fun _ _ _ _ _ => True) (fun _ U oo_ U' => ∃ vv_ LL_, oo_ = .returned vv_ ∧ QV3 Z a x1 x2 p1 h0 n0 vv_ U'.heap LL_ ∧ FrameEnd U oo_ U' LL_ ({ frames := 2, cells := 0, slots := 0, locals := 24 } : Room).cells ({ frames := 2, cells := 0, slots := 0, locals := 24 } : Room).slots) := by
  refine MetFree.of_bodySF (plainFor_of_name pn_2) hisR ?_
  intro p e s m args below meth c s₁ Bd hml0 hP hK
  obtain ⟨rfl, hZ, hh⟩ := hP
  have hx := Bd.exec
  have hby := Bd.bytes
  have hml : c.maxLocals = 4 := hml0
  have hown : s.vm.findClass "com/example/fieldloom/fieldloom/mapping/Value" = some m.cls := findClass_of_methodNamed Bd.named
  have hnm := (name_of_methodNamed Bd.named Bd.method).1
  have X0 : Stand p l e ({ frames := 2, cells := 0, slots := 0, locals := 24 } : Room) s m #[(.ref a), x1, x2, (.int p1)] below meth c s₁ [] 0 0 := Stand.of_body Bd
  have e0 : s₁.heap = h0 := by rw [← hh, Bd.state]; rfl
  have N := Fr.nil n0
  have K : Keep h0 h0 [a] := Keep.refl h0 _
  refine own_go (B := s₁.setTop (mkF m 0 #[.val (.ref a), .val x1, .val x2, .val (.int p1)] [])) (fun t k => castTop (ef_V3 m a x1 x2 p1 i1 i2) k) ?_
  refine own_abs (fun P hfin => ?_)
  refine own_go (B := s₁.setTop (mkF m 1 #[.val (.ref a), .val x1, .val x2, .val (.int p1)] [(.ref a)])) (fun t k => ?_) ?_
  · show Steps p.tables e below (s₁.setTop (mkF m 0 #[.val (.ref a), .val x1, .val x2, .val (.int p1)] [])) _
    refine XS.aloadN X0.here hx rfl (hb hby d_prog_72_method_2_0) rfl rfl ?_
    show Steps p.tables e below (s₁.setTop (mkF m 1 #[.val (.ref a), .val x1, .val x2, .val (.int p1)] [(.ref a)])) _
    exact k
  -- pc 1: java/lang/Record.<init>
  obtain ⟨_, _, ⟨T1, L1, k1, n1⟩, -, X1, ⟨Lc1, hQ1, l1, y1, z1⟩, st1⟩ := X0.specialBack hx (y := (⟨"java/lang/Record", "<init>", "()V"⟩ : MethodName)) rfl hown (mvT hZ (hw _ (List.mem_of_getElem? (i := 36) rfl))) (mvT hZ (hw _ (List.mem_of_getElem? (i := 37) rfl))) (mvT hZ (hw _ (List.mem_of_getElem? (i := 40) rfl))) (by decide) (backOf (W := 0) (rmRec l Z a0 hw [] a h0 n0 O ) hZ (hw _ (List.mem_of_getElem? (i := 40) rfl)) (hw _ (List.mem_of_getElem? (i := 39) rfl)) (by decide) (by decide)) (g := (mkF m 1 #[.val (.ref a), .val x1, .val x2, .val (.int p1)] [(.ref a)])) rfl (by rw [hml]; rfl) (Steps.refl _) (a := a) (argsL := []) (rest := []) (lenOf pd_1 rfl) rfl (by show 2 * 0 + _ ≤ _; exact Nat.le_of_eq rfl) (hb hby d_prog_72_method_2_1) (fun _ hWm => ⟨rfl, e0, (by decide : 0 + 0 ≤ _), (by decide : 0 + 0 ≤ _)⟩)
  dsimp only [Pt.U, Pt.locs, Pt.cells, Pt.slots] at X1 l1 y1 z1 st1 hQ1
  subst l1 y1 z1
  obtain ⟨rfl, Nq1, Kq1⟩ := hQ1
  replace N := Fr.app N Nq1
  refine own_go (B := T1.setTop (mkF m 4 #[.val (.ref a), .val x1, .val x2, .val (.int p1)] [])) (fun t k => st1.trans k) ?_
  refine own_go (B := T1.setTop (mkF m 6 #[.val (.ref a), .val x1, .val x2, .val (.int p1)] [x1, (.ref a)])) (fun t k => ?_) ?_
  · show Steps p.tables e below (T1.setTop (mkF m 4 #[.val (.ref a), .val x1, .val x2, .val (.int p1)] [])) _
    refine XS.aloadN X1.here hx rfl (hb hby d_prog_72_method_2_4) rfl rfl ?_
    show Steps p.tables e below (T1.setTop (mkF m 5 #[.val (.ref a), .val x1, .val x2, .val (.int p1)] [(.ref a)])) _
    refine XS.aloadN X1.here hx rfl (hb hby d_prog_72_method_2_5) rfl i1 ?_
    show Steps p.tables e below (T1.setTop (mkF m 6 #[.val (.ref a), .val x1, .val x2, .val (.int p1)] [x1, (.ref a)])) _
    exact k
  obtain ⟨T2, h2, X2, e2, W2, st2⟩ := putF X1 hx hZ hown (host := "") (Or.inl (hw _ (List.mem_of_getElem? (i := 42) rfl))) Via.refl Kq1 F0 E (Or.inr ⟨(hw _ (List.mem_of_getElem? (i := 43) rfl)), rfl, hnm⟩) (hw _ (List.mem_of_getElem? (i := 31) rfl)) (ty := (.object "java/lang/String")) (by decide) (own_narR i1) (own_fitR i1) (g := (mkF m 6 #[.val (.ref a), .val x1, .val x2, .val (.int p1)] [x1, (.ref a)])) rfl rfl (hb hby d_prog_72_method_2_6)
  have Fw2 := F0.same W2
  replace E := E.wr W2
  clear F0
  replace F1 := F1.other W2 (Or.inr (slot_ne (Or.inr (hw _ (List.mem_of_getElem? (i := 45) rfl))) (Or.inr (hw _ (List.mem_of_getElem? (i := 43) rfl))) (by decide) (t := (.object "com/example/fieldloom/fieldloom/mapping/FieldOccurrence")) (t' := (.object "java/lang/String")) (by decide) (by decide)))
  replace F2 := F2.other W2 (Or.inr (slot_ne (Or.inr (hw _ (List.mem_of_getElem? (i := 47) rfl))) (Or.inr (hw _ (List.mem_of_getElem? (i := 43) rfl))) (by decide) (t := .int) (t' := (.object "java/lang/String")) (by decide) (by decide)))
  replace O := O.wr W2 ga
  replace K := K.wr W2 (Or.inl (List.mem_of_getElem? (i := 0) rfl))
  replace N := Fr.snoc X2 N ga
  refine own_go (B := T2.setTop (mkF m 9 #[.val (.ref a), .val x1, .val x2, .val (.int p1)] [])) st2 ?_
  refine own_go (B := T2.setTop (mkF m 11 #[.val (.ref a), .val x1, .val x2, .val (.int p1)] [x2, (.ref a)])) (fun t k => ?_) ?_
  · show Steps p.tables e below (T2.setTop (mkF m 9 #[.val (.ref a), .val x1, .val x2, .val (.int p1)] [])) _
    refine XS.aloadN X2.here hx rfl (hb hby d_prog_72_method_2_9) rfl rfl ?_
    show Steps p.tables e below (T2.setTop (mkF m 10 #[.val (.ref a), .val x1, .val x2, .val (.int p1)] [(.ref a)])) _
    refine XS.aloadN X2.here hx rfl (hb hby d_prog_72_method_2_10) rfl i2 ?_
    show Steps p.tables e below (T2.setTop (mkF m 11 #[.val (.ref a), .val x1, .val x2, .val (.int p1)] [x2, (.ref a)])) _
    exact k
  obtain ⟨T3, h3, X3, e3, W3, st3⟩ := putF X2 hx hZ hown (host := "") (Or.inl (hw _ (List.mem_of_getElem? (i := 44) rfl))) Via.refl e2 F1 E (Or.inr ⟨(hw _ (List.mem_of_getElem? (i := 45) rfl)), rfl, hnm⟩) (hw _ (List.mem_of_getElem? (i := 31) rfl)) (ty := (.object "com/example/fieldloom/fieldloom/mapping/FieldOccurrence")) (by decide) (own_narR i2) (own_fitR i2) (g := (mkF m 11 #[.val (.ref a), .val x1, .val x2, .val (.int p1)] [x2, (.ref a)])) rfl rfl (hb hby d_prog_72_method_2_11)
  have Fw3 := F1.same W3
  replace E := E.wr W3
  clear F1
  replace F2 := F2.other W3 (Or.inr (slot_ne (Or.inr (hw _ (List.mem_of_getElem? (i := 47) rfl))) (Or.inr (hw _ (List.mem_of_getElem? (i := 45) rfl))) (by decide) (t := .int) (t' := (.object "com/example/fieldloom/fieldloom/mapping/FieldOccurrence")) (by decide) (by decide)))
  replace Fw2 := Fw2.other W3 (Or.inr (slot_ne (Or.inr (hw _ (List.mem_of_getElem? (i := 43) rfl))) (Or.inr (hw _ (List.mem_of_getElem? (i := 45) rfl))) (by decide) (t := (.object "java/lang/String")) (t' := (.object "com/example/fieldloom/fieldloom/mapping/FieldOccurrence")) (by decide) (by decide)))
  replace O := O.wr W3 ga
  replace K := K.wr W3 (Or.inl (List.mem_of_getElem? (i := 0) rfl))
  replace N := Fr.snoc X3 N ga
  refine own_go (B := T3.setTop (mkF m 14 #[.val (.ref a), .val x1, .val x2, .val (.int p1)] [])) st3 ?_
  refine own_go (B := T3.setTop (mkF m 16 #[.val (.ref a), .val x1, .val x2, .val (.int p1)] [(.int p1), (.ref a)])) (fun t k => ?_) ?_
  · show Steps p.tables e below (T3.setTop (mkF m 14 #[.val (.ref a), .val x1, .val x2, .val (.int p1)] [])) _
    refine XS.aloadN X3.here hx rfl (hb hby d_prog_72_method_2_14) rfl rfl ?_
    show Steps p.tables e below (T3.setTop (mkF m 15 #[.val (.ref a), .val x1, .val x2, .val (.int p1)] [(.ref a)])) _
    refine XS.iloadN X3.here hx rfl (hb hby d_prog_72_method_2_15) rfl ?_
    show Steps p.tables e below (T3.setTop (mkF m 16 #[.val (.ref a), .val x1, .val x2, .val (.int p1)] [(.int p1), (.ref a)])) _
    exact k
  obtain ⟨T4, h4, X4, e4, W4, st4⟩ := putF X3 hx hZ hown (host := "") (Or.inl (hw _ (List.mem_of_getElem? (i := 46) rfl))) Via.refl e3 F2 E (Or.inr ⟨(hw _ (List.mem_of_getElem? (i := 47) rfl)), rfl, hnm⟩) (hw _ (List.mem_of_getElem? (i := 31) rfl)) (ty := .int) (by decide) rfl rfl (g := (mkF m 16 #[.val (.ref a), .val x1, .val x2, .val (.int p1)] [(.int p1), (.ref a)])) rfl rfl (hb hby d_prog_72_method_2_16)
  have Fw4 := F2.same W4
  replace E := E.wr W4
  clear F2
  replace Fw2 := Fw2.other W4 (Or.inr (slot_ne (Or.inr (hw _ (List.mem_of_getElem? (i := 43) rfl))) (Or.inr (hw _ (List.mem_of_getElem? (i := 47) rfl))) (by decide) (t := (.object "java/lang/String")) (t' := .int) (by decide) (by decide)))
  replace Fw3 := Fw3.other W4 (Or.inr (slot_ne (Or.inr (hw _ (List.mem_of_getElem? (i := 45) rfl))) (Or.inr (hw _ (List.mem_of_getElem? (i := 47) rfl))) (by decide) (t := (.object "com/example/fieldloom/fieldloom/mapping/FieldOccurrence")) (t' := .int) (by decide) (by decide)))
  replace O := O.wr W4 ga
  replace K := K.wr W4 (Or.inl (List.mem_of_getElem? (i := 0) rfl))
  replace N := Fr.snoc X4 N ga
  refine own_go (B := T4.setTop (mkF m 19 #[.val (.ref a), .val x1, .val x2, .val (.int p1)] [])) st4 ?_
  obtain ⟨fs, hr, hrun, hended, hW, hsame⟩ := X4.leave (v := none) (fun _ => rfl)
  refine ⟨_, _, X4.returnOut hx Bd.returns (hb hby d_prog_72_method_2_19) hr, hfin _ _ ⟨hrun, hended, _, _, rfl, ?_, ⟨_, rfl⟩, hW, hsame.mono (by decide) (by decide)⟩⟩
  show QV3 Z a x1 x2 p1 h0 n0 _ T4.heap _
  rw [e4]
  exact ⟨rfl, N, K, Fw2, Fw3, Fw4⟩
def QV2 (Z : State) (a : Addr) (x1 : Value) (x2 : Value) (h0 : Heap) (n0 : Nat) (v : Option Value) (h : Heap) (L : List Loc) : Prop := v = none ∧ Fr n0 L ∧ Keep h0 h [a] ∧ Fld Z h a "com/example/fieldloom/fieldloom/mapping/Value" "text" "Ljava/lang/String;" x1 ∧ Fld Z h a "com/example/fieldloom/fieldloom/mapping/Value" "occurrence" "Lcom/example/fieldloom/fieldloom/mapping/FieldOccurrence;" x2 ∧ Fld Z h a "com/example/fieldloom/fieldloom/mapping/Value" "position" "I" (.int (1 : Int32))
theorem ef_V2 (m : MethodId) (a : Addr) (x1 : Value) (x2 : Value) (i1 : x1.isRef = true) (i2 : x2.isRef = true) : entryFrame m #[(.ref a), x1, x2] 3 = mkF m 0 #[.val (.ref a), .val x1, .val x2] [] := by first | (simp [entryFrame, mkF, argsToLocals, Value.category]; done) | rfl | (rcases Jvm.Free.XT.refc i1 with rfl | ⟨_, rfl⟩ <;> rcases Jvm.Free.XT.refc i2 with rfl | ⟨_, rfl⟩ <;> rfl)
set_option maxRecDepth 65536 in
set_option maxHeartbeats 40000000 in
theorem rmV2 (l : Launch) (Z : State) (a0 : Array Value) (hw : ∀ d ∈ tables_1, d.before a0 Z = true) (ws : List Jvm.Cond) (a : Addr) (x1 : Value) (x2 : Value) (h0 : Heap) (n0 : Nat) (O : Old Z n0 h0) (E : Exa Z h0 a "com/example/fieldloom/fieldloom/mapping/Value") (F0 : Fld Z h0 a "com/example/fieldloom/fieldloom/mapping/Value" "text" "Ljava/lang/String;" .null) (F1 : Fld Z h0 a "com/example/fieldloom/fieldloom/mapping/Value" "occurrence" "Lcom/example/fieldloom/fieldloom/mapping/FieldOccurrence;" .null) (F2 : Fld Z h0 a "com/example/fieldloom/fieldloom/mapping/Value" "position" "I" (.int (0 : Int32))) (ga : n0 ≤ a) (i1 : x1.isRef = true) (i2 : x2.isRef = true) :
    MetFree l (⟨"com/example/fieldloom/fieldloom/mapping/Value", "<init>", "(Ljava/lang/String;Lcom/example/fieldloom/fieldloom/mapping/FieldOccurrence;)V"⟩ : MethodName) (head1 (Jvm.Cond.code (⟨"com/example/fieldloom/fieldloom/mapping/Value", "<init>", "(Ljava/lang/String;Lcom/example/fieldloom/fieldloom/mapping/FieldOccurrence;)V"⟩ : MethodName) prog_72_method_1_code 3 none :: ws) ({ frames := 3, cells := 0, slots := 0, locals := 39 } : Room)) (fun as_ U => as_ = #[(.ref a), x1, x2] ∧ Z.Warmed39 U.vm ∧ U.heap = h0) (fun _ _ _ _ _ => True) (fun _ U oo_ U' => ∃ vv_ LL_, oo_ = .returned vv_ ∧ QV2 Z a x1 x2 h0 n0 vv_ U'.heap LL_ ∧ FrameEnd U oo_ U' LL_ ({ frames := 3, cells := 0, slots := 0, locals := 39 } : Room).cells ({ frames := 3, cells := 0, slots := 0, locals := 39 } : Room).slots) := by
  refine MetFree.of_bodySF (plainFor_of_name pn_2) hisR ?_
  intro p e s m args below meth c s₁ Bd hml0 hP hK
  obtain ⟨rfl, hZ, hh⟩ := hP
  have hx := Bd.exec
  have hby := Bd.bytes
  have hml : c.maxLocals = 3 := hml0
  have hown : s.vm.findClass "com/example/fieldloom/fieldloom/mapping/Value" = some m.cls := findClass_of_methodNamed Bd.named
  have hnm := (name_of_methodNamed Bd.named Bd.method).1
  have X0 : Stand p l e ({ frames := 3, cells := 0, slots := 0, locals := 39 } : Room) s m #[(.ref a), x1, x2] below meth c s₁ [] 0 0 := Stand.of_body Bd
  have e0 : s₁.heap = h0 := by rw [← hh, Bd.state]; rfl
  have N := Fr.nil n0
  have K : Keep h0 h0 [a] := Keep.refl h0 _
  refine own_go (B := s₁.setTop (mkF m 0 #[.val (.ref a), .val x1, .val x2] [])) (fun t k => castTop (ef_V2 m a x1 x2 i1 i2) k) ?_
  refine own_abs (fun P hfin => ?_)
  refine own_go (B := s₁.setTop (mkF m 4 #[.val (.ref a), .val x1, .val x2] [(.int (1 : Int32)), x2, x1, (.ref a)])) (fun t k => ?_) ?_
  · show Steps p.tables e below (s₁.setTop (mkF m 0 #[.val (.ref a), .val x1, .val x2] [])) _
    refine XS.aloadN X0.here hx rfl (hb hby d_prog_72_method_1_0) rfl rfl ?_
    show Steps p.tables e below (s₁.setTop (mkF m 1 #[.val (.ref a), .val x1, .val x2] [(.ref a)])) _
    refine XS.aloadN X0.here hx rfl (hb hby d_prog_72_method_1_1) rfl i1 ?_
    show Steps p.tables e below (s₁.setTop (mkF m 2 #[.val (.ref a), .val x1, .val x2] [x1, (.ref a)])) _
    refine XS.aloadN X0.here hx rfl (hb hby d_prog_72_method_1_2) rfl i2 ?_
    show Steps p.tables e below (s₁.setTop (mkF m 3 #[.val (.ref a), .val x1, .val x2] [x2, x1, (.ref a)])) _
    refine XS.iconst X0.here hx rfl (hb hby d_prog_72_method_1_3) ?_
    show Steps p.tables e below (s₁.setTop (mkF m 4 #[.val (.ref a), .val x1, .val x2] [(.int (1 : Int32)), x2, x1, (.ref a)])) _
    exact k
  -- pc 4: com/example/fieldloom/fieldloom/mapping/Value.<init>
  obtain ⟨_, _, ⟨T1, L1, k1, n1⟩, -, X1, ⟨Lc1, hQ1, l1, y1, z1⟩, st1⟩ := X0.specialBack hx (y := (⟨"com/example/fieldloom/fieldloom/mapping/Value", "<init>", "(Ljava/lang/String;Lcom/example/fieldloom/fieldloom/mapping/FieldOccurrence;I)V"⟩ : MethodName)) rfl hown (mvT hZ (hw _ (List.mem_of_getElem? (i := 57) rfl))) (mvT hZ (hw _ (List.mem_of_getElem? (i := 34) rfl))) (mvT hZ (hw _ (List.mem_of_getElem? (i := 35) rfl))) (by decide) (backOf (W := 0) (rmV3 l Z a0 hw [] a x1 x2 (1 : Int32) h0 n0 O E F0 F1 F2 ga i1 i2) hZ (hw _ (List.mem_of_getElem? (i := 35) rfl)) (hw _ (List.mem_of_getElem? (i := 32) rfl)) (by decide) (by decide)) (g := (mkF m 4 #[.val (.ref a), .val x1, .val x2] [(.int (1 : Int32)), x2, x1, (.ref a)])) rfl (by rw [hml]; rfl) (Steps.refl _) (a := a) (argsL := [x1, x2, (.int (1 : Int32))]) (rest := []) (lenOf pd_2 rfl) rfl (by show 2 * 0 + _ ≤ _; exact Nat.le_of_eq rfl) (hb hby d_prog_72_method_1_4) (fun _ hWm => ⟨rfl, e0, (by decide : 0 + 0 ≤ _), (by decide : 0 + 0 ≤ _)⟩)
  dsimp only [Pt.U, Pt.locs, Pt.cells, Pt.slots] at X1 l1 y1 z1 st1 hQ1
  subst l1 y1 z1
  obtain ⟨rfl, Nq1, Kq1, Gq1_0, Gq1_1, Gq1_2⟩ := hQ1
  replace N := Fr.app N Nq1
  replace E := E.keep Kq1
  clear F0
  clear F1
  clear F2
  replace O := O.keep Kq1 (allS ga all0)
  replace K := K.trans Kq1 (allS (Or.inl (List.mem_of_getElem? (i := 0) rfl)) all0)
  refine own_go (B := T1.setTop (mkF m 7 #[.val (.ref a), .val x1, .val x2] [])) (fun t k => st1.trans k) ?_
  obtain ⟨fs, hr, hrun, hended, hW, hsame⟩ := X1.leave (v := none) (fun _ => rfl)
  refine ⟨_, _, X1.returnOut hx Bd.returns (hb hby d_prog_72_method_1_7) hr, hfin _ _ ⟨hrun, hended, _, _, rfl, ?_, ⟨_, rfl⟩, hW, hsame.mono (by decide) (by decide)⟩⟩
  show QV2 Z a x1 x2 h0 n0 _ T1.heap _
  exact ⟨rfl, N, K, Gq1_0, Gq1_1, Gq1_2⟩
def QWT (Z : State) (a : Addr) (x1 : Value) (x2 : Value) (h0 : Heap) (n0 : Nat) (v : Option Value) (h : Heap) (L : List Loc) : Prop := ∃ r : Addr, v = some (.ref r) ∧ Fr n0 L ∧ Keep h0 h [] ∧ h0.size ≤ r ∧ Exa Z h r "com/example/fieldloom/fieldloom/mapping/Value" ∧ Fld Z h r "com/example/fieldloom/fieldloom/mapping/Value" "text" "Ljava/lang/String;" x1 ∧ Fld Z h r "com/example/fieldloom/fieldloom/mapping/Value" "occurrence" "Lcom/example/fieldloom/fieldloom/mapping/FieldOccurrence;" x2 ∧ Fld Z h r "com/example/fieldloom/fieldloom/mapping/Value" "position" "I" (.int (1 : Int32))
theorem ef_WT (m : MethodId) (a : Addr) (x1 : Value) (i1 : x1.isRef = true) : entryFrame m #[(.ref a), x1] 2 = mkF m 0 #[.val (.ref a), .val x1] [] := by first | (simp [entryFrame, mkF, argsToLocals, Value.category]; done) | rfl | (rcases Jvm.Free.XT.refc i1 with rfl | ⟨_, rfl⟩ <;> rfl)
set_option maxRecDepth 65536 in
set_option maxHeartbeats 40000000 in
theorem rmWT (l : Launch) (Z : State) (a0 : Array Value) (hw : ∀ d ∈ tables_1, d.before a0 Z = true) (ws : List Jvm.Cond) (a : Addr) (x1 : Value) (x2 : Value) (h0 : Heap) (n0 : Nat) (O : Old Z n0 h0) (F : Fld Z h0 a "com/example/fieldloom/fieldloom/mapping/Value" "occurrence" "Lcom/example/fieldloom/fieldloom/mapping/FieldOccurrence;" x2) (i1 : x1.isRef = true) (i2 : x2.isRef = true) :
    MetFree l (⟨"com/example/fieldloom/fieldloom/mapping/Value", "withText", "(Ljava/lang/String;)Lcom/example/fieldloom/fieldloom/mapping/Value;"⟩ : MethodName) (head1 (Jvm.Cond.code (⟨"com/example/fieldloom/fieldloom/mapping/Value", "withText", "(Ljava/lang/String;)Lcom/example/fieldloom/fieldloom/mapping/Value;"⟩ : MethodName) prog_72_method_5_code 2 (some (.object "com/example/fieldloom/fieldloom/mapping/Value")) :: ws) ({ frames := 4, cells := 1, slots := 3, locals := 54 } : Room)) (fun as_ U => as_ = #[(.ref a), x1] ∧ Z.Warmed39 U.vm ∧ U.heap = h0) (fun _ _ _ _ _ => True) (fun _ U oo_ U' => ∃ vv_ LL_, oo_ = .returned vv_ ∧ QWT Z a x1 x2 h0 n0 vv_ U'.heap LL_ ∧ FrameEnd U oo_ U' LL_ ({ frames := 4, cells := 1, slots := 3, locals := 54 } : Room).cells ({ frames := 4, cells := 1, slots := 3, locals := 54 } : Room).slots) := by
  refine MetFree.of_bodySF (plainFor_of_name pn_2) hisR ?_
  intro p e s m args below meth c s₁ Bd hml0 hP hK
  obtain ⟨rfl, hZ, hh⟩ := hP
  have hx := Bd.exec
  have hby := Bd.bytes
  have hml : c.maxLocals = 2 := hml0
  have hown : s.vm.findClass "com/example/fieldloom/fieldloom/mapping/Value" = some m.cls := findClass_of_methodNamed Bd.named
  have hnm := (name_of_methodNamed Bd.named Bd.method).1
  have X0 : Stand p l e ({ frames := 4, cells := 1, slots := 3, locals := 54 } : Room) s m #[(.ref a), x1] below meth c s₁ [] 0 0 := Stand.of_body Bd
  have e0 : s₁.heap = h0 := by rw [← hh, Bd.state]; rfl
  have N := Fr.nil n0
  have K : Keep h0 h0 [] := Keep.refl h0 _
  refine own_go (B := s₁.setTop (mkF m 0 #[.val (.ref a), .val x1] [])) (fun t k => castTop (ef_WT m a x1 i1) k) ?_
  refine own_abs (fun P hfin => ?_)
  obtain ⟨T1, h1, X1, e1, E1, A1, D1, -, st1⟩ := newO X0 hx hZ hown (hw _ (List.mem_of_getElem? (i := 53) rfl)) (hw _ (List.mem_of_getElem? (i := 31) rfl)) (hw _ (List.mem_of_getElem? (i := 32) rfl)) e0 (g := (mkF m 0 #[.val (.ref a), .val x1] [])) rfl (hb hby d_prog_72_method_5_0) (by decide) (by decide)
  obtain ⟨b1, g1⟩ : ∃ z, z = h0.size := ⟨_, rfl⟩
  rw [← g1] at A1 D1 st1
  have lt_a_b1 : a < b1 := Nat.lt_of_lt_of_le F.lt (Nat.le_of_eq g1.symm)
  have g_b1 : n0 ≤ b1 := Nat.le_trans (own_oldsz O) (Nat.le_of_eq g1.symm)
  have s_b1 : h0.size ≤ b1 := Nat.le_trans K.1 (Nat.le_of_eq g1.symm)
  replace F := F.ext E1
  replace O := O.ext E1
  replace K := K.ext E1
  have F1_text : Fld Z h1 b1 "com/example/fieldloom/fieldloom/mapping/Value" "text" "Ljava/lang/String;" .null := D1 (Or.inr (hw _ (List.mem_of_getElem? (i := 43) rfl))) (ty := (.object "java/lang/String")) (by decide)
  have F1_occurrence : Fld Z h1 b1 "com/example/fieldloom/fieldloom/mapping/Value" "occurrence" "Lcom/example/fieldloom/fieldloom/mapping/FieldOccurrence;" .null := D1 (Or.inr (hw _ (List.mem_of_getElem? (i := 45) rfl))) (ty := (.object "com/example/fieldloom/fieldloom/mapping/FieldOccurrence")) (by decide)
  have F1_position : Fld Z h1 b1 "com/example/fieldloom/fieldloom/mapping/Value" "position" "I" (.int (0 : Int32)) := D1 (Or.inr (hw _ (List.mem_of_getElem? (i := 47) rfl))) (ty := .int) (by decide)
  refine own_go (B := T1.setTop (mkF m 3 #[.val (.ref a), .val x1] [(.ref b1)])) st1 ?_
  refine own_go (B := T1.setTop (mkF m 6 #[.val (.ref a), .val x1] [(.ref a), x1, (.ref b1), (.ref b1)])) (fun t k => ?_) ?_
  · show Steps p.tables e below (T1.setTop (mkF m 3 #[.val (.ref a), .val x1] [(.ref b1)])) _
    refine XS.dup X1.here hx rfl (hb hby d_prog_72_method_5_3) rfl rfl ?_
    show Steps p.tables e below (T1.setTop (mkF m 4 #[.val (.ref a), .val x1] [(.ref b1), (.ref b1)])) _
    refine XS.aloadN X1.here hx rfl (hb hby d_prog_72_method_5_4) rfl i1 ?_
    show Steps p.tables e below (T1.setTop (mkF m 5 #[.val (.ref a), .val x1] [x1, (.ref b1), (.ref b1)])) _
    refine XS.aloadN X1.here hx rfl (hb hby d_prog_72_method_5_5) rfl rfl ?_
    show Steps p.tables e below (T1.setTop (mkF m 6 #[.val (.ref a), .val x1] [(.ref a), x1, (.ref b1), (.ref b1)])) _
    exact k
  obtain ⟨T2, X2, e2, st2⟩ := getF X1 hx hZ hown (host := "") (Or.inl (hw _ (List.mem_of_getElem? (i := 44) rfl))) Via.refl e1 F (g := (mkF m 6 #[.val (.ref a), .val x1] [(.ref a), x1, (.ref b1), (.ref b1)])) rfl rfl (hb hby d_prog_72_method_5_6)
  refine own_go (B := T2.setTop (mkF m 9 #[.val (.ref a), .val x1] [x2, x1, (.ref b1), (.ref b1)])) st2 ?_
  -- pc 9: com/example/fieldloom/fieldloom/mapping/Value.<init>
  obtain ⟨_, _, ⟨T3, L3, k3, n3⟩, -, X3, ⟨Lc3, hQ3, l3, y3, z3⟩, st3⟩ := X2.specialBack hx (y := (⟨"com/example/fieldloom/fieldloom/mapping/Value", "<init>", "(Ljava/lang/String;Lcom/example/fieldloom/fieldloom/mapping/FieldOccurrence;)V"⟩ : MethodName)) rfl hown (mvT hZ (hw _ (List.mem_of_getElem? (i := 54) rfl))) (mvT hZ (hw _ (List.mem_of_getElem? (i := 55) rfl))) (mvT hZ (hw _ (List.mem_of_getElem? (i := 56) rfl))) (by decide) (backOf (W := 1) (rmV2 l Z a0 hw [] b1 x1 x2 h1 n0 O A1 F1_text F1_occurrence F1_position g_b1 i1 i2) hZ (hw _ (List.mem_of_getElem? (i := 56) rfl)) (hw _ (List.mem_of_getElem? (i := 32) rfl)) (by decide) (by decide)) (g := (mkF m 9 #[.val (.ref a), .val x1] [x2, x1, (.ref b1), (.ref b1)])) rfl (by rw [hml]; rfl) (Steps.refl _) (a := b1) (argsL := [x1, x2]) (rest := [(.ref b1)]) (lenOf pd_3 rfl) rfl (by show 2 * 0 + _ ≤ _; exact Nat.le_of_eq rfl) (hb hby d_prog_72_method_5_9) (fun _ hWm => ⟨rfl, e2, (by decide : 1 + 0 ≤ _), (by decide : 3 + 0 ≤ _)⟩)
  dsimp only [Pt.U, Pt.locs, Pt.cells, Pt.slots] at X3 l3 y3 z3 st3 hQ3
  subst l3 y3 z3
  obtain ⟨rfl, Nq3, Kq3, Gq3_0, Gq3_1, Gq3_2⟩ := hQ3
  replace N := Fr.app N Nq3
  replace F := F.keep Kq3 (ninS (Nat.ne_of_lt lt_a_b1) nin0)
  replace A1 := A1.keep Kq3
  clear F1_text
  clear F1_occurrence
  clear F1_position
  replace O := O.keep Kq3 (allS g_b1 all0)
  replace K := K.trans Kq3 (allS (Or.inr s_b1) all0)
  refine own_go (B := T3.setTop (mkF m 12 #[.val (.ref a), .val x1] [(.ref b1)])) (fun t k => st3.trans k) ?_
  obtain ⟨fs, hr, hrun, hended, hW, hsame⟩ := X3.leave (v := some (.ref b1)) (fun h => by rw [Bd.returns] at h; cases h)
  refine ⟨_, _, own_retA X3 hx rfl Bd.returns rfl (hb hby d_prog_72_method_5_12) hr, hfin _ _ ⟨hrun, hended, _, _, rfl, ?_, ⟨_, rfl⟩, hW, hsame.mono (by decide) (by decide)⟩⟩
  show QWT Z a x1 x2 h0 n0 _ T3.heap _
  exact ⟨b1, rfl, N, K, s_b1, A1, Gq3_0, Gq3_1, Gq3_2⟩
def QGt (Z : State) (a : Addr) (x1 : Value) (h0 : Heap) (n0 : Nat) (v : Option Value) (h : Heap) (L : List Loc) : Prop := v = some x1 ∧ Fr n0 L ∧ h = h0
theorem ef_Gt (m : MethodId) (a : Addr) : entryFrame m #[(.ref a)] 1 = mkF m 0 #[.val (.ref a)] [] := by first | (simp [entryFrame, mkF, argsToLocals, Value.category]; done) | rfl | (rfl)
set_option maxRecDepth 65536 in
set_option maxHeartbeats 40000000 in
theorem rmGt (l : Launch) (Z : State) (a0 : Array Value) (hw : ∀ d ∈ tables_1, d.before a0 Z = true) (ws : List Jvm.Cond) (a : Addr) (x1 : Value) (h0 : Heap) (n0 : Nat) (O : Old Z n0 h0) (F : Fld Z h0 a "com/example/fieldloom/fieldloom/mapping/Value" "text" "Ljava/lang/String;" x1) (i1 : x1.isRef = true) :
    MetFree l (⟨"com/example/fieldloom/fieldloom/mapping/Value", "text", "()Ljava/lang/String;"⟩ : MethodName) (head1 (Jvm.Cond.code (⟨"com/example/fieldloom/fieldloom/mapping/Value", "text", "()Ljava/lang/String;"⟩ : MethodName) prog_72_method_9_code 1 (some (.object "java/lang/String")) :: ws) ({ frames := 0, cells := 0, slots := 0, locals := 0 } : Room)) (fun as_ U => as_ = #[(.ref a)] ∧ Z.Warmed39 U.vm ∧ U.heap = h0) (fun _ _ _ _ _ => True) (fun _ U oo_ U' => ∃ vv_ LL_, oo_ = .returned vv_ ∧ QGt Z a x1 h0 n0 vv_ U'.heap LL_ ∧ FrameEnd U oo_ U' LL_ ({ frames := 0, cells := 0, slots := 0, locals := 0 } : Room).cells ({ frames := 0, cells := 0, slots := 0, locals := 0 } : Room).slots) := by
  refine MetFree.of_bodySF (plainFor_of_name pn_2) hisR ?_
  intro p e s m args below meth c s₁ Bd hml0 hP hK
  obtain ⟨rfl, hZ, hh⟩ := hP
  have hx := Bd.exec
  have hby := Bd.bytes
  have hml : c.maxLocals = 1 := hml0
  have hown : s.vm.findClass "com/example/fieldloom/fieldloom/mapping/Value" = some m.cls := findClass_of_methodNamed Bd.named
  have hnm := (name_of_methodNamed Bd.named Bd.method).1
  have X0 : Stand p l e ({ frames := 0, cells := 0, slots := 0, locals := 0 } : Room) s m #[(.ref a)] below meth c s₁ [] 0 0 := Stand.of_body Bd
  have e0 : s₁.heap = h0 := by rw [← hh, Bd.state]; rfl
  have N := Fr.nil n0
  have K : Keep h0 h0 [] := Keep.refl h0 _
  refine own_go (B := s₁.setTop (mkF m 0 #[.val (.ref a)] [])) (fun t k => castTop (ef_Gt m a) k) ?_
  refine own_abs (fun P hfin => ?_)
  refine own_go (B := s₁.setTop (mkF m 1 #[.val (.ref a)] [(.ref a)])) (fun t k => ?_) ?_
  · show Steps p.tables e below (s₁.setTop (mkF m 0 #[.val (.ref a)] [])) _
    refine XS.aloadN X0.here hx rfl (hb hby d_prog_72_method_9_0) rfl rfl ?_
    show Steps p.tables e below (s₁.setTop (mkF m 1 #[.val (.ref a)] [(.ref a)])) _
    exact k
  obtain ⟨T1, X1, e1, st1⟩ := getF X0 hx hZ hown (host := "") (Or.inl (hw _ (List.mem_of_getElem? (i := 42) rfl))) Via.refl e0 F (g := (mkF m 1 #[.val (.ref a)] [(.ref a)])) rfl rfl (hb hby d_prog_72_method_9_1)
  refine own_go (B := T1.setTop (mkF m 4 #[.val (.ref a)] [x1])) st1 ?_
  obtain ⟨fs, hr, hrun, hended, hW, hsame⟩ := X1.leave (v := some x1) (fun h => by rw [Bd.returns] at h; cases h)
  refine ⟨_, _, own_retA X1 hx i1 Bd.returns rfl (hb hby d_prog_72_method_9_4) hr, hfin _ _ ⟨hrun, hended, _, _, rfl, ?_, ⟨_, rfl⟩, hW, hsame.mono (by decide) (by decide)⟩⟩
  show QGt Z a x1 h0 n0 _ T1.heap _
  exact ⟨rfl, N, e1⟩
def QGo (Z : State) (a : Addr) (x1 : Value) (h0 : Heap) (n0 : Nat) (v : Option Value) (h : Heap) (L : List Loc) : Prop := v = some x1 ∧ Fr n0 L ∧ h = h0
theorem ef_Go (m : MethodId) (a : Addr) : entryFrame m #[(.ref a)] 1 = mkF m 0 #[.val (.ref a)] [] := by first | (simp [entryFrame, mkF, argsToLocals, Value.category]; done) | rfl | (rfl)
set_option maxRecDepth 65536 in
set_option maxHeartbeats 40000000 in
theorem rmGo (l : Launch) (Z : State) (a0 : Array Value) (hw : ∀ d ∈ tables_1, d.before a0 Z = true) (ws : List Jvm.Cond) (a : Addr) (x1 : Value) (h0 : Heap) (n0 : Nat) (O : Old Z n0 h0) (F : Fld Z h0 a "com/example/fieldloom/fieldloom/mapping/Value" "occurrence" "Lcom/example/fieldloom/fieldloom/mapping/FieldOccurrence;" x1) (i1 : x1.isRef = true) :
    MetFree l (⟨"com/example/fieldloom/fieldloom/mapping/Value", "occurrence", "()Lcom/example/fieldloom/fieldloom/mapping/FieldOccurrence;"⟩ : MethodName) (head1 (Jvm.Cond.code (⟨"com/example/fieldloom/fieldloom/mapping/Value", "occurrence", "()Lcom/example/fieldloom/fieldloom/mapping/FieldOccurrence;"⟩ : MethodName) prog_72_method_10_code 1 (some (.object "com/example/fieldloom/fieldloom/mapping/FieldOccurrence")) :: ws) ({ frames := 0, cells := 0, slots := 0, locals := 0 } : Room)) (fun as_ U => as_ = #[(.ref a)] ∧ Z.Warmed39 U.vm ∧ U.heap = h0) (fun _ _ _ _ _ => True) (fun _ U oo_ U' => ∃ vv_ LL_, oo_ = .returned vv_ ∧ QGo Z a x1 h0 n0 vv_ U'.heap LL_ ∧ FrameEnd U oo_ U' LL_ ({ frames := 0, cells := 0, slots := 0, locals := 0 } : Room).cells ({ frames := 0, cells := 0, slots := 0, locals := 0 } : Room).slots) := by
  refine MetFree.of_bodySF (plainFor_of_name pn_2) hisR ?_
  intro p e s m args below meth c s₁ Bd hml0 hP hK
  obtain ⟨rfl, hZ, hh⟩ := hP
  have hx := Bd.exec
  have hby := Bd.bytes
  have hml : c.maxLocals = 1 := hml0
  have hown : s.vm.findClass "com/example/fieldloom/fieldloom/mapping/Value" = some m.cls := findClass_of_methodNamed Bd.named
  have hnm := (name_of_methodNamed Bd.named Bd.method).1
  have X0 : Stand p l e ({ frames := 0, cells := 0, slots := 0, locals := 0 } : Room) s m #[(.ref a)] below meth c s₁ [] 0 0 := Stand.of_body Bd
  have e0 : s₁.heap = h0 := by rw [← hh, Bd.state]; rfl
  have N := Fr.nil n0
  have K : Keep h0 h0 [] := Keep.refl h0 _
  refine own_go (B := s₁.setTop (mkF m 0 #[.val (.ref a)] [])) (fun t k => castTop (ef_Go m a) k) ?_
  refine own_abs (fun P hfin => ?_)
  refine own_go (B := s₁.setTop (mkF m 1 #[.val (.ref a)] [(.ref a)])) (fun t k => ?_) ?_
  · show Steps p.tables e below (s₁.setTop (mkF m 0 #[.val (.ref a)] [])) _
    refine XS.aloadN X0.here hx rfl (hb hby d_prog_72_method_10_0) rfl rfl ?_
    show Steps p.tables e below (s₁.setTop (mkF m 1 #[.val (.ref a)] [(.ref a)])) _
    exact k
  obtain ⟨T1, X1, e1, st1⟩ := getF X0 hx hZ hown (host := "") (Or.inl (hw _ (List.mem_of_getElem? (i := 44) rfl))) Via.refl e0 F (g := (mkF m 1 #[.val (.ref a)] [(.ref a)])) rfl rfl (hb hby d_prog_72_method_10_1)
  refine own_go (B := T1.setTop (mkF m 4 #[.val (.ref a)] [x1])) st1 ?_
  obtain ⟨fs, hr, hrun, hended, hW, hsame⟩ := X1.leave (v := some x1) (fun h => by rw [Bd.returns] at h; cases h)
  refine ⟨_, _, own_retA X1 hx i1 Bd.returns rfl (hb hby d_prog_72_method_10_4) hr, hfin _ _ ⟨hrun, hended, _, _, rfl, ?_, ⟨_, rfl⟩, hW, hsame.mono (by decide) (by decide)⟩⟩
  show QGo Z a x1 h0 n0 _ T1.heap _
  exact ⟨rfl, N, e1⟩
def QGp (Z : State) (a : Addr) (x1 : Int32) (h0 : Heap) (n0 : Nat) (v : Option Value) (h : Heap) (L : List Loc) : Prop := v = some (.int x1) ∧ Fr n0 L ∧ h = h0
theorem ef_Gp (m : MethodId) (a : Addr) : entryFrame m #[(.ref a)] 1 = mkF m 0 #[.val (.ref a)] [] := by first | (simp [entryFrame, mkF, argsToLocals, Value.category]; done) | rfl | (rfl)
set_option maxRecDepth 65536 in
set_option maxHeartbeats 40000000 in
theorem rmGp (l : Launch) (Z : State) (a0 : Array Value) (hw : ∀ d ∈ tables_1, d.before a0 Z = true) (ws : List Jvm.Cond) (a : Addr) (x1 : Int32) (h0 : Heap) (n0 : Nat) (O : Old Z n0 h0) (F : Fld Z h0 a "com/example/fieldloom/fieldloom/mapping/Value" "position" "I" (.int x1)) :
    MetFree l (⟨"com/example/fieldloom/fieldloom/mapping/Value", "position", "()I"⟩ : MethodName) (head1 (Jvm.Cond.code (⟨"com/example/fieldloom/fieldloom/mapping/Value", "position", "()I"⟩ : MethodName) prog_72_method_11_code 1 (some .int) :: ws) ({ frames := 0, cells := 0, slots := 0, locals := 0 } : Room)) (fun as_ U => as_ = #[(.ref a)] ∧ Z.Warmed39 U.vm ∧ U.heap = h0) (fun _ _ _ _ _ => True) (fun _ U oo_ U' => ∃ vv_ LL_, oo_ = .returned vv_ ∧ QGp Z a x1 h0 n0 vv_ U'.heap LL_ ∧ FrameEnd U oo_ U' LL_ ({ frames := 0, cells := 0, slots := 0, locals := 0 } : Room).cells ({ frames := 0, cells := 0, slots := 0, locals := 0 } : Room).slots) := by
  refine MetFree.of_bodySF (plainFor_of_name pn_2) hisR ?_
  intro p e s m args below meth c s₁ Bd hml0 hP hK
  obtain ⟨rfl, hZ, hh⟩ := hP
  have hx := Bd.exec
  have hby := Bd.bytes
  have hml : c.maxLocals = 1 := hml0
  have hown : s.vm.findClass "com/example/fieldloom/fieldloom/mapping/Value" = some m.cls := findClass_of_methodNamed Bd.named
  have hnm := (name_of_methodNamed Bd.named Bd.method).1
  have X0 : Stand p l e ({ frames := 0, cells := 0, slots := 0, locals := 0 } : Room) s m #[(.ref a)] below meth c s₁ [] 0 0 := Stand.of_body Bd
  have e0 : s₁.heap = h0 := by rw [← hh, Bd.state]; rfl
  have N := Fr.nil n0
  have K : Keep h0 h0 [] := Keep.refl h0 _
  refine own_go (B := s₁.setTop (mkF m 0 #[.val (.ref a)] [])) (fun t k => castTop (ef_Gp m a) k) ?_
  refine own_abs (fun P hfin => ?_)
  refine own_go (B := s₁.setTop (mkF m 1 #[.val (.ref a)] [(.ref a)])) (fun t k => ?_) ?_
  · show Steps p.tables e below (s₁.setTop (mkF m 0 #[.val (.ref a)] [])) _
    refine XS.aloadN X0.here hx rfl (hb hby d_prog_72_method_11_0) rfl rfl ?_
    show Steps p.tables e below (s₁.setTop (mkF m 1 #[.val (.ref a)] [(.ref a)])) _
    exact k
  obtain ⟨T1, X1, e1, st1⟩ := getF X0 hx hZ hown (host := "") (Or.inl (hw _ (List.mem_of_getElem? (i := 46) rfl))) Via.refl e0 F (g := (mkF m 1 #[.val (.ref a)] [(.ref a)])) rfl rfl (hb hby d_prog_72_method_11_1)
  refine own_go (B := T1.setTop (mkF m 4 #[.val (.ref a)] [(.int x1)])) st1 ?_
  obtain ⟨fs, hr, hrun, hended, hW, hsame⟩ := X1.leave (v := some (.int x1)) (fun h => by rw [Bd.returns] at h; cases h)
  refine ⟨_, _, retI X1 hx Bd.returns (hb hby d_prog_72_method_11_4) hr, hfin _ _ ⟨hrun, hended, _, _, rfl, ?_, ⟨_, rfl⟩, hW, hsame.mono (by decide) (by decide)⟩⟩
  show QGp Z a x1 h0 n0 _ T1.heap _
  exact ⟨rfl, N, e1⟩
def QFO (Z : State) (a : Addr) (s1 : Addr) (p1 : Int32) (h0 : Heap) (n0 : Nat) (v : Option Value) (h : Heap) (L : List Loc) : Prop := v = none ∧ Fr n0 L ∧ Keep h0 h [a]
theorem ef_FO (m : MethodId) (a : Addr) (s1 : Addr) (p1 : Int32) : entryFrame m #[(.ref a), (.ref s1), (.int p1), .null] 4 = mkF m 0 #[.val (.ref a), .val (.ref s1), .val (.int p1), .val .null] [] := by first | (simp [entryFrame, mkF, argsToLocals, Value.category]; done) | rfl | (rfl)
set_option maxRecDepth 65536 in
set_option maxHeartbeats 40000000 in
theorem rmFO (l : Launch) (Z : State) (a0 : Array Value) (hw : ∀ d ∈ tables_1, d.before a0 Z = true) (ws : List Jvm.Cond) (a : Addr) (s1 : Addr) (p1 : Int32) (h0 : Heap) (n0 : Nat) (O : Old Z n0 h0) (E : Exa Z h0 a "com/example/fieldloom/fieldloom/mapping/FieldOccurrence") (F1 : Fld Z h0 a "com/example/fieldloom/fieldloom/mapping/FieldOccurrence" "tag" "Ljava/lang/String;" .null) (F2 : Fld Z h0 a "com/example/fieldloom/fieldloom/mapping/FieldOccurrence" "number" "I" (.int (0 : Int32))) (F3 : Fld Z h0 a "com/example/fieldloom/fieldloom/mapping/FieldOccurrence" "field" "Lcom/example/fieldloom/fieldloom/model/DataField;" .null) (ga : n0 ≤ a) :
    MetFree l (⟨"com/example/fieldloom/fieldloom/mapping/FieldOccurrence", "<init>", "(Ljava/lang/String;ILcom/example/fieldloom/fieldloom/model/DataField;)V"⟩ : MethodName) (head1 (Jvm.Cond.code (⟨"com/example/fieldloom/fieldloom/mapping/FieldOccurrence", "<init>", "(Ljava/lang/String;ILcom/example/fieldloom/fieldloom/model/DataField;)V"⟩ : MethodName) prog_44_method_1_code 4 none :: ws) ({ frames := 2, cells := 0, slots := 0, locals := 24 } : Room)) (fun as_ U => as_ = #[(.ref a), (.ref s1), (.int p1), .null] ∧ Z.Warmed39 U.vm ∧ U.heap = h0) (fun _ _ _ _ _ => True) (fun _ U oo_ U' => ∃ vv_ LL_, oo_ = .returned vv_ ∧ QFO Z a s1 p1 h0 n0 vv_ U'.heap LL_ ∧ FrameEnd U oo_ U' LL_ ({ frames := 2, cells := 0, slots := 0, locals := 24 } : Room).cells ({ frames := 2, cells := 0, slots := 0, locals := 24 } : Room).slots) := by
  refine MetFree.of_bodySF (plainFor_of_name pn_3) hisR ?_
  intro p e s m args below meth c s₁ Bd hml0 hP hK
  obtain ⟨rfl, hZ, hh⟩ := hP
  have hx := Bd.exec
  have hby := Bd.bytes
  have hml : c.maxLocals = 4 := hml0
  have hown : s.vm.findClass "com/example/fieldloom/fieldloom/mapping/FieldOccurrence" = some m.cls := findClass_of_methodNamed Bd.named
  have hnm := (name_of_methodNamed Bd.named Bd.method).1
  have X0 : Stand p l e ({ frames := 2, cells := 0, slots := 0, locals := 24 } : Room) s m #[(.ref a), (.ref s1), (.int p1), .null] below meth c s₁ [] 0 0 := Stand.of_body Bd
  have e0 : s₁.heap = h0 := by rw [← hh, Bd.state]; rfl
  have N := Fr.nil n0
  have K : Keep h0 h0 [a] := Keep.refl h0 _
  refine own_go (B := s₁.setTop (mkF m 0 #[.val (.ref a), .val (.ref s1), .val (.int p1), .val .null] [])) (fun t k => castTop (ef_FO m a s1 p1) k) ?_
  refine own_abs (fun P hfin => ?_)
  refine own_go (B := s₁.setTop (mkF m 1 #[.val (.ref a), .val (.ref s1), .val (.int p1), .val .null] [(.ref a)])) (fun t k => ?_) ?_
  · show Steps p.tables e below (s₁.setTop (mkF m 0 #[.val (.ref a), .val (.ref s1), .val (.int p1), .val .null] [])) _
    refine XS.aloadN X0.here hx rfl (hb hby d_prog_44_method_1_0) rfl rfl ?_
    show Steps p.tables e below (s₁.setTop (mkF m 1 #[.val (.ref a), .val (.ref s1), .val (.int p1), .val .null] [(.ref a)])) _
    exact k
  -- pc 1: java/lang/Record.<init>
  obtain ⟨_, _, ⟨T1, L1, k1, n1⟩, -, X1, ⟨Lc1, hQ1, l1, y1, z1⟩, st1⟩ := X0.specialBack hx (y := (⟨"java/lang/Record", "<init>", "()V"⟩ : MethodName)) rfl hown (mvT hZ (hw _ (List.mem_of_getElem? (i := 84) rfl))) (mvT hZ (hw _ (List.mem_of_getElem? (i := 37) rfl))) (mvT hZ (hw _ (List.mem_of_getElem? (i := 40) rfl))) (by decide) (backOf (W := 0) (rmRec l Z a0 hw [] a h0 n0 O ) hZ (hw _ (List.mem_of_getElem? (i := 40) rfl)) (hw _ (List.mem_of_getElem? (i := 39) rfl)) (by decide) (by decide)) (g := (mkF m 1 #[.val (.ref a), .val (.ref s1), .val (.int p1), .val .null] [(.ref a)])) rfl (by rw [hml]; rfl) (Steps.refl _) (a := a) (argsL := []) (rest := []) (lenOf pd_1 rfl) rfl (by show 2 * 0 + _ ≤ _; exact Nat.le_of_eq rfl) (hb hby d_prog_44_method_1_1) (fun _ hWm => ⟨rfl, e0, (by decide : 0 + 0 ≤ _), (by decide : 0 + 0 ≤ _)⟩)
  dsimp only [Pt.U, Pt.locs, Pt.cells, Pt.slots] at X1 l1 y1 z1 st1 hQ1
  subst l1 y1 z1
  obtain ⟨rfl, Nq1, Kq1⟩ := hQ1
  replace N := Fr.app N Nq1
  refine own_go (B := T1.setTop (mkF m 4 #[.val (.ref a), .val (.ref s1), .val (.int p1), .val .null] [])) (fun t k => st1.trans k) ?_
  refine own_go (B := T1.setTop (mkF m 6 #[.val (.ref a), .val (.ref s1), .val (.int p1), .val .null] [(.ref s1), (.ref a)])) (fun t k => ?_) ?_
  · show Steps p.tables e below (T1.setTop (mkF m 4 #[.val (.ref a), .val (.ref s1), .val (.int p1), .val .null] [])) _
    refine XS.aloadN X1.here hx rfl (hb hby d_prog_44_method_1_4) rfl rfl ?_
    show Steps p.tables e below (T1.setTop (mkF m 5 #[.val (.ref a), .val (.ref s1), .val (.int p1), .val .null] [(.ref a)])) _
    refine XS.aloadN X1.here hx rfl (hb hby d_prog_44_method_1_5) rfl rfl ?_
    show Steps p.tables e below (T1.setTop (mkF m 6 #[.val (.ref a), .val (.ref s1), .val (.int p1), .val .null] [(.ref s1), (.ref a)])) _
    exact k
  obtain ⟨T2, h2, X2, e2, W2, st2⟩ := putF X1 hx hZ hown (host := "") (Or.inl (hw _ (List.mem_of_getElem? (i := 85) rfl))) Via.refl Kq1 F1 E (Or.inr ⟨(hw _ (List.mem_of_getElem? (i := 86) rfl)), rfl, hnm⟩) (hw _ (List.mem_of_getElem? (i := 79) rfl)) (ty := (.object "java/lang/String")) (by decide) rfl rfl (g := (mkF m 6 #[.val (.ref a), .val (.ref s1), .val (.int p1), .val .null] [(.ref s1), (.ref a)])) rfl rfl (hb hby d_prog_44_method_1_6)
  have Fw2 := F1.same W2
  replace E := E.wr W2
  clear F1
  replace F2 := F2.other W2 (Or.inr (slot_ne (Or.inr (hw _ (List.mem_of_getElem? (i := 88) rfl))) (Or.inr (hw _ (List.mem_of_getElem? (i := 86) rfl))) (by decide) (t := .int) (t' := (.object "java/lang/String")) (by decide) (by decide)))
  replace F3 := F3.other W2 (Or.inr (slot_ne (Or.inr (hw _ (List.mem_of_getElem? (i := 90) rfl))) (Or.inr (hw _ (List.mem_of_getElem? (i := 86) rfl))) (by decide) (t := (.object "com/example/fieldloom/fieldloom/model/DataField")) (t' := (.object "java/lang/String")) (by decide) (by decide)))
  replace O := O.wr W2 ga
  replace K := K.wr W2 (Or.inl (List.mem_of_getElem? (i := 0) rfl))
  replace N := Fr.snoc X2 N ga
  refine own_go (B := T2.setTop (mkF m 9 #[.val (.ref a), .val (.ref s1), .val (.int p1), .val .null] [])) st2 ?_
  refine own_go (B := T2.setTop (mkF m 11 #[.val (.ref a), .val (.ref s1), .val (.int p1), .val .null] [(.int p1), (.ref a)])) (fun t k => ?_) ?_
  · show Steps p.tables e below (T2.setTop (mkF m 9 #[.val (.ref a), .val (.ref s1), .val (.int p1), .val .null] [])) _
    refine XS.aloadN X2.here hx rfl (hb hby d_prog_44_method_1_9) rfl rfl ?_
    show Steps p.tables e below (T2.setTop (mkF m 10 #[.val (.ref a), .val (.ref s1), .val (.int p1), .val .null] [(.ref a)])) _
    refine XS.iloadN X2.here hx rfl (hb hby d_prog_44_method_1_10) rfl ?_
    show Steps p.tables e below (T2.setTop (mkF m 11 #[.val (.ref a), .val (.ref s1), .val (.int p1), .val .null] [(.int p1), (.ref a)])) _
    exact k
  obtain ⟨T3, h3, X3, e3, W3, st3⟩ := putF X2 hx hZ hown (host := "") (Or.inl (hw _ (List.mem_of_getElem? (i := 87) rfl))) Via.refl e2 F2 E (Or.inr ⟨(hw _ (List.mem_of_getElem? (i := 88) rfl)), rfl, hnm⟩) (hw _ (List.mem_of_getElem? (i := 79) rfl)) (ty := .int) (by decide) rfl rfl (g := (mkF m 11 #[.val (.ref a), .val (.ref s1), .val (.int p1), .val .null] [(.int p1), (.ref a)])) rfl rfl (hb hby d_prog_44_method_1_11)
  have Fw3 := F2.same W3
  replace E := E.wr W3
  clear F2
  replace F3 := F3.other W3 (Or.inr (slot_ne (Or.inr (hw _ (List.mem_of_getElem? (i := 90) rfl))) (Or.inr (hw _ (List.mem_of_getElem? (i := 88) rfl))) (by decide) (t := (.object "com/example/fieldloom/fieldloom/model/DataField")) (t' := .int) (by decide) (by decide)))
  replace Fw2 := Fw2.other W3 (Or.inr (slot_ne (Or.inr (hw _ (List.mem_of_getElem? (i := 86) rfl))) (Or.inr (hw _ (List.mem_of_getElem? (i := 88) rfl))) (by decide) (t := (.object "java/lang/String")) (t' := .int) (by decide) (by decide)))
  replace O := O.wr W3 ga
  replace K := K.wr W3 (Or.inl (List.mem_of_getElem? (i := 0) rfl))
  replace N := Fr.snoc X3 N ga
  refine own_go (B := T3.setTop (mkF m 14 #[.val (.ref a), .val (.ref s1), .val (.int p1), .val .null] [])) st3 ?_
  refine own_go (B := T3.setTop (mkF m 16 #[.val (.ref a), .val (.ref s1), .val (.int p1), .val .null] [.null, (.ref a)])) (fun t k => ?_) ?_
  · show Steps p.tables e below (T3.setTop (mkF m 14 #[.val (.ref a), .val (.ref s1), .val (.int p1), .val .null] [])) _
    refine XS.aloadN X3.here hx rfl (hb hby d_prog_44_method_1_14) rfl rfl ?_
    show Steps p.tables e below (T3.setTop (mkF m 15 #[.val (.ref a), .val (.ref s1), .val (.int p1), .val .null] [(.ref a)])) _
    refine XS.aloadN X3.here hx rfl (hb hby d_prog_44_method_1_15) rfl rfl ?_
    show Steps p.tables e below (T3.setTop (mkF m 16 #[.val (.ref a), .val (.ref s1), .val (.int p1), .val .null] [.null, (.ref a)])) _
    exact k
  obtain ⟨T4, h4, X4, e4, W4, st4⟩ := putF X3 hx hZ hown (host := "") (Or.inl (hw _ (List.mem_of_getElem? (i := 89) rfl))) Via.refl e3 F3 E (Or.inr ⟨(hw _ (List.mem_of_getElem? (i := 90) rfl)), rfl, hnm⟩) (hw _ (List.mem_of_getElem? (i := 79) rfl)) (ty := (.object "com/example/fieldloom/fieldloom/model/DataField")) (by decide) rfl rfl (g := (mkF m 16 #[.val (.ref a), .val (.ref s1), .val (.int p1), .val .null] [.null, (.ref a)])) rfl rfl (hb hby d_prog_44_method_1_16)
  have Fw4 := F3.same W4
  replace E := E.wr W4
  clear F3
  replace Fw2 := Fw2.other W4 (Or.inr (slot_ne (Or.inr (hw _ (List.mem_of_getElem? (i := 86) rfl))) (Or.inr (hw _ (List.mem_of_getElem? (i := 90) rfl))) (by decide) (t := (.object "java/lang/String")) (t' := (.object "com/example/fieldloom/fieldloom/model/DataField")) (by decide) (by decide)))
  replace Fw3 := Fw3.other W4 (Or.inr (slot_ne (Or.inr (hw _ (List.mem_of_getElem? (i := 88) rfl))) (Or.inr (hw _ (List.mem_of_getElem? (i := 90) rfl))) (by decide) (t := .int) (t' := (.object "com/example/fieldloom/fieldloom/model/DataField")) (by decide) (by decide)))
  replace O := O.wr W4 ga
  replace K := K.wr W4 (Or.inl (List.mem_of_getElem? (i := 0) rfl))
  replace N := Fr.snoc X4 N ga
  refine own_go (B := T4.setTop (mkF m 19 #[.val (.ref a), .val (.ref s1), .val (.int p1), .val .null] [])) st4 ?_
  obtain ⟨fs, hr, hrun, hended, hW, hsame⟩ := X4.leave (v := none) (fun _ => rfl)
  refine ⟨_, _, X4.returnOut hx Bd.returns (hb hby d_prog_44_method_1_19) hr, hfin _ _ ⟨hrun, hended, _, _, rfl, ?_, ⟨_, rfl⟩, hW, hsame.mono (by decide) (by decide)⟩⟩
  show QFO Z a s1 p1 h0 n0 _ T4.heap _
  rw [e4]
  exact ⟨rfl, N, K⟩
def Q0 (Z : State) (p1 : Int32) (p2 : Int32) (p3 : Int32) (p4 : Int32) (p5 : Int32) (zc : Int32) (h0 : Heap) (n0 : Nat) (v : Option Value) (h : Heap) (L : List Loc) : Prop := v = some (.int 1) ∧ Fr n0 L
theorem ef_0 (m : MethodId) (p1 : Int32) (p2 : Int32) (p3 : Int32) (p4 : Int32) (p5 : Int32) : entryFrame m #[(.int p1), (.int p2), (.int p3), (.int p4), (.int p5)] maxLocals = mkF m 0 #[.val (.int p1), .val (.int p2), .val (.int p3), .val (.int p4), .val (.int p5), .unset, .unset, .unset, .unset, .unset, .unset, .unset, .unset, .unset, .unset, .unset, .unset, .unset, .unset, .unset] [] := by first | (simp [entryFrame, mkF, argsToLocals, Value.category, maxLocals]; done) | rfl | (rfl)
set_option maxRecDepth 65536 in
set_option maxHeartbeats 40000000 in
theorem rm0 (l : Launch) (Z : State) (a0 : Array Value) (hw : ∀ d ∈ tables_1, d.before a0 Z = true) (ws : List Jvm.Cond) (p1 : Int32) (p2 : Int32) (p3 : Int32) (p4 : Int32) (p5 : Int32) (zc : Int32) (h0 : Heap) (n0 : Nat) (O : Old Z n0 h0) (S_C : Sta Z Z.heap "java/lang/String" "COMPACT_STRINGS" "Z" (.int zc)) (hcs : ¬ zc = (0 : Int32)) (hcH : Jvm.Lit.constHeld Z "java/lang/String" 7) (hcw : Jvm.Lit.compactW.before a0 Z = true) :
    MetFree l x (head1 (Jvm.Cond.code x code maxLocals ret :: ws) room_1) (fun as_ U => as_ = #[(.int p1), (.int p2), (.int p3), (.int p4), (.int p5)] ∧ Z.Warmed39 U.vm ∧ U.heap = h0 ∧ Em Z U.vm h0) (fun _ _ _ _ _ => True) (fun _ U oo_ U' => ∃ vv_ LL_, oo_ = .returned vv_ ∧ Q0 Z p1 p2 p3 p4 p5 zc h0 n0 vv_ U'.heap LL_ ∧ ReturnedEndW U oo_ U' LL_ room_1.cells room_1.slots) := by
  refine MetFree.of_bodySF (plainFor_of_name pn_4) hisR ?_
  intro p e s m args below meth c s₁ Bd hml0 hP hK
  obtain ⟨rfl, hZ, hh, M⟩ := hP
  have hx := Bd.exec
  have hby := Bd.bytes
  have hml : c.maxLocals = 20 := hml0
  have hown : s.vm.findClass "com/example/fieldloom/fieldloom/mapping/ValueWithTextPinLaw" = some m.cls := findClass_of_methodNamed Bd.named
  have hnm := (name_of_methodNamed Bd.named Bd.method).1
  have X0 : Stand p l e room_1 (s.setVm s.vm) m #[(.int p1), (.int p2), (.int p3), (.int p4), (.int p5)] below meth c s₁ [] 0 0 := Stand.of_body Bd
  have e0 : s₁.heap = h0 := by rw [← hh, Bd.state]; rfl
  have N := Fr.nil n0
  have hown : (s.setVm s.vm).vm.findClass "com/example/fieldloom/fieldloom/mapping/ValueWithTextPinLaw" = some m.cls := hown
  have hZ : Z.Warmed39 (s.setVm s.vm).vm := hZ
  have hS : s.Since s.vm h0.size := (State.WarmedH.refl s).since _
  have hk : h0.size ≤ h0.size := Nat.le_refl _
  refine own_go (B := s₁.setTop (mkF m 0 #[.val (.int p1), .val (.int p2), .val (.int p3), .val (.int p4), .val (.int p5), .unset, .unset, .unset, .unset, .unset, .unset, .unset, .unset, .unset, .unset, .unset, .unset, .unset, .unset, .unset] [])) (fun t k => castTop (ef_0 m p1 p2 p3 p4 p5) k) ?_
  have KM : Keep h0 h0 [] := Keep.refl h0 _
  refine own_abs (fun P hfin => ?_)
  refine own_go (B := s₁.setTop (mkF m 4 #[.val (.int p1), .val (.int p2), .val (.int p3), .val (.int p4), .val (.int p5), .unset, .unset, .unset, .unset, .unset, .unset, .unset, .unset, .unset, .unset, .unset, .unset, .unset, .unset, .unset] [(.int (p5 &&& (1 : Int32)))])) (fun t k => ?_) ?_
  · show Steps p.tables e below (s₁.setTop (mkF m 0 #[.val (.int p1), .val (.int p2), .val (.int p3), .val (.int p4), .val (.int p5), .unset, .unset, .unset, .unset, .unset, .unset, .unset, .unset, .unset, .unset, .unset, .unset, .unset, .unset, .unset] [])) _
    refine XS.iload X0.here hx rfl (hb hby at_0) rfl ?_
    show Steps p.tables e below (s₁.setTop (mkF m 2 #[.val (.int p1), .val (.int p2), .val (.int p3), .val (.int p4), .val (.int p5), .unset, .unset, .unset, .unset, .unset, .unset, .unset, .unset, .unset, .unset, .unset, .unset, .unset, .unset, .unset] [(.int p5)])) _
    refine XS.iconst X0.here hx rfl (hb hby at_2) ?_
    show Steps p.tables e below (s₁.setTop (mkF m 3 #[.val (.int p1), .val (.int p2), .val (.int p3), .val (.int p4), .val (.int p5), .unset, .unset, .unset, .unset, .unset, .unset, .unset, .unset, .unset, .unset, .unset, .unset, .unset, .unset, .unset] [(.int (1 : Int32)), (.int p5)])) _
    refine XS.iand X0.here hx rfl (hb hby at_3) rfl ?_
    show Steps p.tables e below (s₁.setTop (mkF m 4 #[.val (.int p1), .val (.int p2), .val (.int p3), .val (.int p4), .val (.int p5), .unset, .unset, .unset, .unset, .unset, .unset, .unset, .unset, .unset, .unset, .unset, .unset, .unset, .unset, .unset] [(.int (p5 &&& (1 : Int32)))])) _
    exact k
  obtain ⟨bo, hbo⟩ : ∃ z : Int32, z = (if (p5 &&& (1 : Int32)) = (0 : Int32) then (0 : Int32) else (1 : Int32)) := ⟨_, rfl⟩
  refine own_go (B := s₁.setTop (mkF m 12 #[.val (.int p1), .val (.int p2), .val (.int p3), .val (.int p4), .val (.int p5), .unset, .unset, .unset, .unset, .unset, .unset, .unset, .unset, .unset, .unset, .unset, .unset, .unset, .unset, .unset] [(.int bo)])) (fun t k => ?_) ?_
  · skip
    show Steps p.tables e below (s₁.setTop (mkF m 4 #[.val (.int p1), .val (.int p2), .val (.int p3), .val (.int p4), .val (.int p5), .unset, .unset, .unset, .unset, .unset, .unset, .unset, .unset, .unset, .unset, .unset, .unset, .unset, .unset, .unset] [(.int (p5 &&& (1 : Int32)))])) _
    by_cases hm4 : (p5 &&& (1 : Int32)) = (0 : Int32)
    · skip
      simp only [if_pos hm4] at hbo
      subst hbo
      show Steps p.tables e below (s₁.setTop (mkF m 4 #[.val (.int p1), .val (.int p2), .val (.int p3), .val (.int p4), .val (.int p5), .unset, .unset, .unset, .unset, .unset, .unset, .unset, .unset, .unset, .unset, .unset, .unset, .unset, .unset, .unset] [(.int (p5 &&& (1 : Int32)))])) _
      refine XS.ifYes X0.here hx rfl (pc0 := 4) (pc' := 11) rfl (hb hby at_4) rfl ((if0 _ _).trans (teq hm4).1) (by decide) (by decide) ?_
      show Steps p.tables e below (s₁.setTop (mkF m 11 #[.val (.int p1), .val (.int p2), .val (.int p3), .val (.int p4), .val (.int p5), .unset, .unset, .unset, .unset, .unset, .unset, .unset, .unset, .unset, .unset, .unset, .unset, .unset, .unset, .unset] [])) _
      refine XS.iconst X0.here hx rfl (hb hby at_11) ?_
      show Steps p.tables e below (s₁.setTop (mkF m 12 #[.val (.int p1), .val (.int p2), .val (.int p3), .val (.int p4), .val (.int p5), .unset, .unset, .unset, .unset, .unset, .unset, .unset, .unset, .unset, .unset, .unset, .unset, .unset, .unset, .unset] [(.int (0 : Int32))])) _
      exact k
    · skip
      simp only [if_neg hm4] at hbo
      subst hbo
      show Steps p.tables e below (s₁.setTop (mkF m 4 #[.val (.int p1), .val (.int p2), .val (.int p3), .val (.int p4), .val (.int p5), .unset, .unset, .unset, .unset, .unset, .unset, .unset, .unset, .unset, .unset, .unset, .unset, .unset, .unset, .unset] [(.int (p5 &&& (1 : Int32)))])) _
      refine XS.ifNo X0.here hx rfl (hb hby at_4) rfl ((if0 _ _).trans (feq hm4).1) ?_
      show Steps p.tables e below (s₁.setTop (mkF m 7 #[.val (.int p1), .val (.int p2), .val (.int p3), .val (.int p4), .val (.int p5), .unset, .unset, .unset, .unset, .unset, .unset, .unset, .unset, .unset, .unset, .unset, .unset, .unset, .unset, .unset] [])) _
      refine XS.iconst X0.here hx rfl (hb hby at_7) ?_
      show Steps p.tables e below (s₁.setTop (mkF m 8 #[.val (.int p1), .val (.int p2), .val (.int p3), .val (.int p4), .val (.int p5), .unset, .unset, .unset, .unset, .unset, .unset, .unset, .unset, .unset, .unset, .unset, .unset, .unset, .unset, .unset] [(.int (1 : Int32))])) _
      refine XS.goto X0.here hx rfl (pc0 := 8) (pc' := 12) rfl (hb hby at_8) (by decide) (by decide) ?_
      show Steps p.tables e below (s₁.setTop (mkF m 12 #[.val (.int p1), .val (.int p2), .val (.int p3), .val (.int p4), .val (.int p5), .unset, .unset, .unset, .unset, .unset, .unset, .unset, .unset, .unset, .unset, .unset, .unset, .unset, .unset, .unset] [(.int (1 : Int32))])) _
      exact k
  refine own_go (B := s₁.setTop (mkF m 18 #[.val (.int p1), .val (.int p2), .val (.int p3), .val (.int p4), .val (.int p5), .val (.int bo), .unset, .unset, .unset, .unset, .unset, .unset, .unset, .unset, .unset, .unset, .unset, .unset, .unset, .unset] [(.int (p5 &&& (2 : Int32)))])) (fun t k => ?_) ?_
  · show Steps p.tables e below (s₁.setTop (mkF m 12 #[.val (.int p1), .val (.int p2), .val (.int p3), .val (.int p4), .val (.int p5), .unset, .unset, .unset, .unset, .unset, .unset, .unset, .unset, .unset, .unset, .unset, .unset, .unset, .unset, .unset] [(.int bo)])) _
    refine XS.istore X0.here hx rfl (hb hby at_12) rfl (l' := #[.val (.int p1), .val (.int p2), .val (.int p3), .val (.int p4), .val (.int p5), .val (.int bo), .unset, .unset, .unset, .unset, .unset, .unset, .unset, .unset, .unset, .unset, .unset, .unset, .unset, .unset]) rfl ?_
    show Steps p.tables e below (s₁.setTop (mkF m 14 #[.val (.int p1), .val (.int p2), .val (.int p3), .val (.int p4), .val (.int p5), .val (.int bo), .unset, .unset, .unset, .unset, .unset, .unset, .unset, .unset, .unset, .unset, .unset, .unset, .unset, .unset] [])) _
    refine XS.iload X0.here hx rfl (hb hby at_14) rfl ?_
    show Steps p.tables e below (s₁.setTop (mkF m 16 #[.val (.int p1), .val (.int p2), .val (.int p3), .val (.int p4), .val (.int p5), .val (.int bo), .unset, .unset, .unset, .unset, .unset, .unset, .unset, .unset, .unset, .unset, .unset, .unset, .unset, .unset] [(.int p5)])) _
    refine XS.iconst X0.here hx rfl (hb hby at_16) ?_
    show Steps p.tables e below (s₁.setTop (mkF m 17 #[.val (.int p1), .val (.int p2), .val (.int p3), .val (.int p4), .val (.int p5), .val (.int bo), .unset, .unset, .unset, .unset, .unset, .unset, .unset, .unset, .unset, .unset, .unset, .unset, .unset, .unset] [(.int (2 : Int32)), (.int p5)])) _
    refine XS.iand X0.here hx rfl (hb hby at_17) rfl ?_
    show Steps p.tables e below (s₁.setTop (mkF m 18 #[.val (.int p1), .val (.int p2), .val (.int p3), .val (.int p4), .val (.int p5), .val (.int bo), .unset, .unset, .unset, .unset, .unset, .unset, .unset, .unset, .unset, .unset, .unset, .unset, .unset, .unset] [(.int (p5 &&& (2 : Int32)))])) _
    exact k
  obtain ⟨bn, hbn⟩ : ∃ z : Int32, z = (if (p5 &&& (2 : Int32)) = (0 : Int32) then (0 : Int32) else (1 : Int32)) := ⟨_, rfl⟩
  refine own_go (B := s₁.setTop (mkF m 26 #[.val (.int p1), .val (.int p2), .val (.int p3), .val (.int p4), .val (.int p5), .val (.int bo), .unset, .unset, .unset, .unset, .unset, .unset, .unset, .unset, .unset, .unset, .unset, .unset, .unset, .unset] [(.int bn)])) (fun t k => ?_) ?_
  · skip
    show Steps p.tables e below (s₁.setTop (mkF m 18 #[.val (.int p1), .val (.int p2), .val (.int p3), .val (.int p4), .val (.int p5), .val (.int bo), .unset, .unset, .unset, .unset, .unset, .unset, .unset, .unset, .unset, .unset, .unset, .unset, .unset, .unset] [(.int (p5 &&& (2 : Int32)))])) _
    by_cases hm18 : (p5 &&& (2 : Int32)) = (0 : Int32)
    · skip
      simp only [if_pos hm18] at hbn
      subst hbn
      show Steps p.tables e below (s₁.setTop (mkF m 18 #[.val (.int p1), .val (.int p2), .val (.int p3), .val (.int p4), .val (.int p5), .val (.int bo), .unset, .unset, .unset, .unset, .unset, .unset, .unset, .unset, .unset, .unset, .unset, .unset, .unset, .unset] [(.int (p5 &&& (2 : Int32)))])) _
      refine XS.ifYes X0.here hx rfl (pc0 := 18) (pc' := 25) rfl (hb hby at_18) rfl ((if0 _ _).trans (teq hm18).1) (by decide) (by decide) ?_
      show Steps p.tables e below (s₁.setTop (mkF m 25 #[.val (.int p1), .val (.int p2), .val (.int p3), .val (.int p4), .val (.int p5), .val (.int bo), .unset, .unset, .unset, .unset, .unset, .unset, .unset, .unset, .unset, .unset, .unset, .unset, .unset, .unset] [])) _
      refine XS.iconst X0.here hx rfl (hb hby at_25) ?_
      show Steps p.tables e below (s₁.setTop (mkF m 26 #[.val (.int p1), .val (.int p2), .val (.int p3), .val (.int p4), .val (.int p5), .val (.int bo), .unset, .unset, .unset, .unset, .unset, .unset, .unset, .unset, .unset, .unset, .unset, .unset, .unset, .unset] [(.int (0 : Int32))])) _
      exact k
    · skip
      simp only [if_neg hm18] at hbn
      subst hbn
      show Steps p.tables e below (s₁.setTop (mkF m 18 #[.val (.int p1), .val (.int p2), .val (.int p3), .val (.int p4), .val (.int p5), .val (.int bo), .unset, .unset, .unset, .unset, .unset, .unset, .unset, .unset, .unset, .unset, .unset, .unset, .unset, .unset] [(.int (p5 &&& (2 : Int32)))])) _
      refine XS.ifNo X0.here hx rfl (hb hby at_18) rfl ((if0 _ _).trans (feq hm18).1) ?_
      show Steps p.tables e below (s₁.setTop (mkF m 21 #[.val (.int p1), .val (.int p2), .val (.int p3), .val (.int p4), .val (.int p5), .val (.int bo), .unset, .unset, .unset, .unset, .unset, .unset, .unset, .unset, .unset, .unset, .unset, .unset, .unset, .unset] [])) _
      refine XS.iconst X0.here hx rfl (hb hby at_21) ?_
      show Steps p.tables e below (s₁.setTop (mkF m 22 #[.val (.int p1), .val (.int p2), .val (.int p3), .val (.int p4), .val (.int p5), .val (.int bo), .unset, .unset, .unset, .unset, .unset, .unset, .unset, .unset, .unset, .unset, .unset, .unset, .unset, .unset] [(.int (1 : Int32))])) _
      refine XS.goto X0.here hx rfl (pc0 := 22) (pc' := 26) rfl (hb hby at_22) (by decide) (by decide) ?_
      show Steps p.tables e below (s₁.setTop (mkF m 26 #[.val (.int p1), .val (.int p2), .val (.int p3), .val (.int p4), .val (.int p5), .val (.int bo), .unset, .unset, .unset, .unset, .unset, .unset, .unset, .unset, .unset, .unset, .unset, .unset, .unset, .unset] [(.int (1 : Int32))])) _
      exact k
  refine own_go (B := s₁.setTop (mkF m 32 #[.val (.int p1), .val (.int p2), .val (.int p3), .val (.int p4), .val (.int p5), .val (.int bo), .val (.int bn), .unset, .unset, .unset, .unset, .unset, .unset, .unset, .unset, .unset, .unset, .unset, .unset, .unset] [(.int (p5 &&& (4 : Int32)))])) (fun t k => ?_) ?_
  · show Steps p.tables e below (s₁.setTop (mkF m 26 #[.val (.int p1), .val (.int p2), .val (.int p3), .val (.int p4), .val (.int p5), .val (.int bo), .unset, .unset, .unset, .unset, .unset, .unset, .unset, .unset, .unset, .unset, .unset, .unset, .unset, .unset] [(.int bn)])) _
    refine XS.istore X0.here hx rfl (hb hby at_26) rfl (l' := #[.val (.int p1), .val (.int p2), .val (.int p3), .val (.int p4), .val (.int p5), .val (.int bo), .val (.int bn), .unset, .unset, .unset, .unset, .unset, .unset, .unset, .unset, .unset, .unset, .unset, .unset, .unset]) rfl ?_
    show Steps p.tables e below (s₁.setTop (mkF m 28 #[.val (.int p1), .val (.int p2), .val (.int p3), .val (.int p4), .val (.int p5), .val (.int bo), .val (.int bn), .unset, .unset, .unset, .unset, .unset, .unset, .unset, .unset, .unset, .unset, .unset, .unset, .unset] [])) _
    refine XS.iload X0.here hx rfl (hb hby at_28) rfl ?_
    show Steps p.tables e below (s₁.setTop (mkF m 30 #[.val (.int p1), .val (.int p2), .val (.int p3), .val (.int p4), .val (.int p5), .val (.int bo), .val (.int bn), .unset, .unset, .unset, .unset, .unset, .unset, .unset, .unset, .unset, .unset, .unset, .unset, .unset] [(.int p5)])) _
    refine XS.iconst X0.here hx rfl (hb hby at_30) ?_
    show Steps p.tables e below (s₁.setTop (mkF m 31 #[.val (.int p1), .val (.int p2), .val (.int p3), .val (.int p4), .val (.int p5), .val (.int bo), .val (.int bn), .unset, .unset, .unset, .unset, .unset, .unset, .unset, .unset, .unset, .unset, .unset, .unset, .unset] [(.int (4 : Int32)), (.int p5)])) _
    refine XS.iand X0.here hx rfl (hb hby at_31) rfl ?_
    show Steps p.tables e below (s₁.setTop (mkF m 32 #[.val (.int p1), .val (.int p2), .val (.int p3), .val (.int p4), .val (.int p5), .val (.int bo), .val (.int bn), .unset, .unset, .unset, .unset, .unset, .unset, .unset, .unset, .unset, .unset, .unset, .unset, .unset] [(.int (p5 &&& (4 : Int32)))])) _
    exact k
  obtain ⟨be, hbe⟩ : ∃ z : Int32, z = (if (p5 &&& (4 : Int32)) = (0 : Int32) then (0 : Int32) else (1 : Int32)) := ⟨_, rfl⟩
  refine own_go (B := s₁.setTop (mkF m 40 #[.val (.int p1), .val (.int p2), .val (.int p3), .val (.int p4), .val (.int p5), .val (.int bo), .val (.int bn), .unset, .unset, .unset, .unset, .unset, .unset, .unset, .unset, .unset, .unset, .unset, .unset, .unset] [(.int be)])) (fun t k => ?_) ?_
  · skip
    show Steps p.tables e below (s₁.setTop (mkF m 32 #[.val (.int p1), .val (.int p2), .val (.int p3), .val (.int p4), .val (.int p5), .val (.int bo), .val (.int bn), .unset, .unset, .unset, .unset, .unset, .unset, .unset, .unset, .unset, .unset, .unset, .unset, .unset] [(.int (p5 &&& (4 : Int32)))])) _
    by_cases hm32 : (p5 &&& (4 : Int32)) = (0 : Int32)
    · skip
      simp only [if_pos hm32] at hbe
      subst hbe
      show Steps p.tables e below (s₁.setTop (mkF m 32 #[.val (.int p1), .val (.int p2), .val (.int p3), .val (.int p4), .val (.int p5), .val (.int bo), .val (.int bn), .unset, .unset, .unset, .unset, .unset, .unset, .unset, .unset, .unset, .unset, .unset, .unset, .unset] [(.int (p5 &&& (4 : Int32)))])) _
      refine XS.ifYes X0.here hx rfl (pc0 := 32) (pc' := 39) rfl (hb hby at_32) rfl ((if0 _ _).trans (teq hm32).1) (by decide) (by decide) ?_
      show Steps p.tables e below (s₁.setTop (mkF m 39 #[.val (.int p1), .val (.int p2), .val (.int p3), .val (.int p4), .val (.int p5), .val (.int bo), .val (.int bn), .unset, .unset, .unset, .unset, .unset, .unset, .unset, .unset, .unset, .unset, .unset, .unset, .unset] [])) _
      refine XS.iconst X0.here hx rfl (hb hby at_39) ?_
      show Steps p.tables e below (s₁.setTop (mkF m 40 #[.val (.int p1), .val (.int p2), .val (.int p3), .val (.int p4), .val (.int p5), .val (.int bo), .val (.int bn), .unset, .unset, .unset, .unset, .unset, .unset, .unset, .unset, .unset, .unset, .unset, .unset, .unset] [(.int (0 : Int32))])) _
      exact k
    · skip
      simp only [if_neg hm32] at hbe
      subst hbe
      show Steps p.tables e below (s₁.setTop (mkF m 32 #[.val (.int p1), .val (.int p2), .val (.int p3), .val (.int p4), .val (.int p5), .val (.int bo), .val (.int bn), .unset, .unset, .unset, .unset, .unset, .unset, .unset, .unset, .unset, .unset, .unset, .unset, .unset] [(.int (p5 &&& (4 : Int32)))])) _
      refine XS.ifNo X0.here hx rfl (hb hby at_32) rfl ((if0 _ _).trans (feq hm32).1) ?_
      show Steps p.tables e below (s₁.setTop (mkF m 35 #[.val (.int p1), .val (.int p2), .val (.int p3), .val (.int p4), .val (.int p5), .val (.int bo), .val (.int bn), .unset, .unset, .unset, .unset, .unset, .unset, .unset, .unset, .unset, .unset, .unset, .unset, .unset] [])) _
      refine XS.iconst X0.here hx rfl (hb hby at_35) ?_
      show Steps p.tables e below (s₁.setTop (mkF m 36 #[.val (.int p1), .val (.int p2), .val (.int p3), .val (.int p4), .val (.int p5), .val (.int bo), .val (.int bn), .unset, .unset, .unset, .unset, .unset, .unset, .unset, .unset, .unset, .unset, .unset, .unset, .unset] [(.int (1 : Int32))])) _
      refine XS.goto X0.here hx rfl (pc0 := 36) (pc' := 40) rfl (hb hby at_36) (by decide) (by decide) ?_
      show Steps p.tables e below (s₁.setTop (mkF m 40 #[.val (.int p1), .val (.int p2), .val (.int p3), .val (.int p4), .val (.int p5), .val (.int bo), .val (.int bn), .unset, .unset, .unset, .unset, .unset, .unset, .unset, .unset, .unset, .unset, .unset, .unset, .unset] [(.int (1 : Int32))])) _
      exact k
  refine own_go (B := s₁.setTop (mkF m 43 #[.val (.int p1), .val (.int p2), .val (.int p3), .val (.int p4), .val (.int p5), .val (.int bo), .val (.int bn), .val (.int be), .unset, .unset, .unset, .unset, .unset, .unset, .unset, .unset, .unset, .unset, .unset, .unset] [(.int (2 : Int32))])) (fun t k => ?_) ?_
  · show Steps p.tables e below (s₁.setTop (mkF m 40 #[.val (.int p1), .val (.int p2), .val (.int p3), .val (.int p4), .val (.int p5), .val (.int bo), .val (.int bn), .unset, .unset, .unset, .unset, .unset, .unset, .unset, .unset, .unset, .unset, .unset, .unset, .unset] [(.int be)])) _
    refine XS.istore X0.here hx rfl (hb hby at_40) rfl (l' := #[.val (.int p1), .val (.int p2), .val (.int p3), .val (.int p4), .val (.int p5), .val (.int bo), .val (.int bn), .val (.int be), .unset, .unset, .unset, .unset, .unset, .unset, .unset, .unset, .unset, .unset, .unset, .unset]) rfl ?_
    show Steps p.tables e below (s₁.setTop (mkF m 42 #[.val (.int p1), .val (.int p2), .val (.int p3), .val (.int p4), .val (.int p5), .val (.int bo), .val (.int bn), .val (.int be), .unset, .unset, .unset, .unset, .unset, .unset, .unset, .unset, .unset, .unset, .unset, .unset] [])) _
    refine XS.iconst X0.here hx rfl (hb hby at_42) ?_
    show Steps p.tables e below (s₁.setTop (mkF m 43 #[.val (.int p1), .val (.int p2), .val (.int p3), .val (.int p4), .val (.int p5), .val (.int bo), .val (.int bn), .val (.int be), .unset, .unset, .unset, .unset, .unset, .unset, .unset, .unset, .unset, .unset, .unset, .unset] [(.int (2 : Int32))])) _
    exact k
  obtain ⟨T1, h1, k1, X1, e1, E1, A1, G1, st1⟩ := newPE X0 hx hZ (hw _ (List.mem_of_getElem? (i := 0) rfl)) e0 (g := (mkF m 43 #[.val (.int p1), .val (.int p2), .val (.int p3), .val (.int p4), .val (.int p5), .val (.int bo), .val (.int bn), .val (.int be), .unset, .unset, .unset, .unset, .unset, .unset, .unset, .unset, .unset, .unset, .unset, .unset] [(.int (2 : Int32))])) rfl (hb hby at_43) rfl (by decide) (cap := 2) (by decide) (by decide) (by decide) (by decide) (ad := "[C") (by decide)
  obtain ⟨b1, g1⟩ : ∃ z, z = h0.size := ⟨_, rfl⟩
  rw [← g1] at A1 G1 st1
  have g_b1 : n0 ≤ b1 := Nat.le_trans (own_oldsz O) (Nat.le_of_eq g1.symm)
  have m_b1_1 : h0.size ≤ b1 := Nat.le_trans KM.1 (Nat.le_of_eq g1.symm)
  replace O := O.ext E1
  replace hk := Nat.le_trans hk E1.1
  replace KM := KM.ext E1
  have V1 : Arv Z h1 b1 k1 .char (2 : Int32) [(.int (0 : Int32)), (.int (0 : Int32))] (.int (0 : Int32)) := (Arv.new A1 (by decide)).pad (pad_rep [] (.int (0 : Int32)) 2)
  refine own_go (B := T1.setTop (mkF m 45 #[.val (.int p1), .val (.int p2), .val (.int p3), .val (.int p4), .val (.int p5), .val (.int bo), .val (.int bn), .val (.int be), .unset, .unset, .unset, .unset, .unset, .unset, .unset, .unset, .unset, .unset, .unset, .unset] [(.ref b1)])) st1 ?_
  refine own_go (B := T1.setTop (mkF m 56 #[.val (.int p1), .val (.int p2), .val (.int p3), .val (.int p4), .val (.int p5), .val (.int bo), .val (.int bn), .val (.int be), .val (.ref b1), .unset, .unset, .unset, .unset, .unset, .unset, .unset, .unset, .unset, .unset, .unset] [(.int ((p1 &&& (255 : Int32)).toUInt32.toUInt16.toUInt32.toInt32)), (.int (0 : Int32)), (.ref b1)])) (fun t k => ?_) ?_
  · show Steps p.tables e below (T1.setTop (mkF m 45 #[.val (.int p1), .val (.int p2), .val (.int p3), .val (.int p4), .val (.int p5), .val (.int bo), .val (.int bn), .val (.int be), .unset, .unset, .unset, .unset, .unset, .unset, .unset, .unset, .unset, .unset, .unset, .unset] [(.ref b1)])) _
    refine XS.astore X1.here hx rfl (hb hby at_45) rfl rfl (l' := #[.val (.int p1), .val (.int p2), .val (.int p3), .val (.int p4), .val (.int p5), .val (.int bo), .val (.int bn), .val (.int be), .val (.ref b1), .unset, .unset, .unset, .unset, .unset, .unset, .unset, .unset, .unset, .unset, .unset]) rfl ?_
    show Steps p.tables e below (T1.setTop (mkF m 47 #[.val (.int p1), .val (.int p2), .val (.int p3), .val (.int p4), .val (.int p5), .val (.int bo), .val (.int bn), .val (.int be), .val (.ref b1), .unset, .unset, .unset, .unset, .unset, .unset, .unset, .unset, .unset, .unset, .unset] [])) _
    refine XS.aload X1.here hx rfl (hb hby at_47) rfl rfl ?_
    show Steps p.tables e below (T1.setTop (mkF m 49 #[.val (.int p1), .val (.int p2), .val (.int p3), .val (.int p4), .val (.int p5), .val (.int bo), .val (.int bn), .val (.int be), .val (.ref b1), .unset, .unset, .unset, .unset, .unset, .unset, .unset, .unset, .unset, .unset, .unset] [(.ref b1)])) _
    refine XS.iconst X1.here hx rfl (hb hby at_49) ?_
    show Steps p.tables e below (T1.setTop (mkF m 50 #[.val (.int p1), .val (.int p2), .val (.int p3), .val (.int p4), .val (.int p5), .val (.int bo), .val (.int bn), .val (.int be), .val (.ref b1), .unset, .unset, .unset, .unset, .unset, .unset, .unset, .unset, .unset, .unset, .unset] [(.int (0 : Int32)), (.ref b1)])) _
    refine XS.iloadN X1.here hx rfl (hb hby at_50) rfl ?_
    show Steps p.tables e below (T1.setTop (mkF m 51 #[.val (.int p1), .val (.int p2), .val (.int p3), .val (.int p4), .val (.int p5), .val (.int bo), .val (.int bn), .val (.int be), .val (.ref b1), .unset, .unset, .unset, .unset, .unset, .unset, .unset, .unset, .unset, .unset, .unset] [(.int p1), (.int (0 : Int32)), (.ref b1)])) _
    refine XS.sipush X1.here hx rfl (hb hby at_51) ?_
    show Steps p.tables e below (T1.setTop (mkF m 54 #[.val (.int p1), .val (.int p2), .val (.int p3), .val (.int p4), .val (.int p5), .val (.int bo), .val (.int bn), .val (.int be), .val (.ref b1), .unset, .unset, .unset, .unset, .unset, .unset, .unset, .unset, .unset, .unset, .unset] [(.int (255 : Int32)), (.int p1), (.int (0 : Int32)), (.ref b1)])) _
    refine XS.iand X1.here hx rfl (hb hby at_54) rfl ?_
    show Steps p.tables e below (T1.setTop (mkF m 55 #[.val (.int p1), .val (.int p2), .val (.int p3), .val (.int p4), .val (.int p5), .val (.int bo), .val (.int bn), .val (.int be), .val (.ref b1), .unset, .unset, .unset, .unset, .unset, .unset, .unset, .unset, .unset, .unset, .unset] [(.int (p1 &&& (255 : Int32))), (.int (0 : Int32)), (.ref b1)])) _
    refine XS.i2c X1.here hx rfl (hb hby at_55) rfl ?_
    show Steps p.tables e below (T1.setTop (mkF m 56 #[.val (.int p1), .val (.int p2), .val (.int p3), .val (.int p4), .val (.int p5), .val (.int bo), .val (.int bn), .val (.int be), .val (.ref b1), .unset, .unset, .unset, .unset, .unset, .unset, .unset, .unset, .unset, .unset, .unset] [(.int ((p1 &&& (255 : Int32)).toUInt32.toUInt16.toUInt32.toInt32)), (.int (0 : Int32)), (.ref b1)])) _
    exact k
  rw [i2c_mask]
  obtain ⟨c0, hc0⟩ : ∃ z : Int32, z = (p1 &&& (255 : Int32)) := ⟨_, rfl⟩
  rw [← hc0]
  have bc0 : ¬ c0 < 0 ∧ ¬ (255 : Int32) < c0 := by rw [hc0]; exact own_b255 _
  have cc0 : nar .char c0 = c0 := by rw [hc0]; exact i2c_mask _
  obtain ⟨cl2, Ar2, q2, Sz2, Nn2, Hs2, Gt2⟩ := V1
  have hin2 : ¬ ((0 : Int32) < 0 ∨ cl2.slots.size ≤ ((0 : Int32)).toNatClampNeg) := inb_of Sz2 ⟨by decide, by decide⟩
  obtain ⟨T2, h2, X2, e2, W2, st2⟩ := stC X1 hx hZ e1 Ar2 (j := (0 : Int32)) hin2 (g := (mkF m 56 #[.val (.int p1), .val (.int p2), .val (.int p3), .val (.int p4), .val (.int p5), .val (.int bo), .val (.int bn), .val (.int be), .val (.ref b1), .unset, .unset, .unset, .unset, .unset, .unset, .unset, .unset, .unset, .unset, .unset] [(.int c0), (.int (0 : Int32)), (.ref b1)])) rfl rfl (hb hby at_56)
  have V2 := Arv.set Ar2 q2 Sz2 Nn2 Hs2 Gt2 (fits_nar_char _) W2 0 rfl (Nat.le_of_ble_eq_true rfl)
  rw [cc0] at V2
  have V2 : Arv Z h2 b1 k1 .char (2 : Int32) [(.int c0), (.int (0 : Int32))] (.int (0 : Int32)) := V2
  replace G1 := G1.wr W2
  replace O := O.wr W2 g_b1
  replace hk := Nat.le_trans hk (Keep.of_wr W2).1
  replace KM := KM.wr W2 (Or.inr m_b1_1)
  replace N := Fr.snoc X2 N g_b1
  refine own_go (B := T2.setTop (mkF m 57 #[.val (.int p1), .val (.int p2), .val (.int p3), .val (.int p4), .val (.int p5), .val (.int bo), .val (.int bn), .val (.int be), .val (.ref b1), .unset, .unset, .unset, .unset, .unset, .unset, .unset, .unset, .unset, .unset, .unset] [])) st2 ?_
  refine own_go (B := T2.setTop (mkF m 69 #[.val (.int p1), .val (.int p2), .val (.int p3), .val (.int p4), .val (.int p5), .val (.int bo), .val (.int bn), .val (.int be), .val (.ref b1), .unset, .unset, .unset, .unset, .unset, .unset, .unset, .unset, .unset, .unset, .unset] [(.int ((((p1.toUInt32 >>> ((8 : Int32) &&& 31).toUInt32).toInt32) &&& (255 : Int32)).toUInt32.toUInt16.toUInt32.toInt32)), (.int (1 : Int32)), (.ref b1)])) (fun t k => ?_) ?_
  · show Steps p.tables e below (T2.setTop (mkF m 57 #[.val (.int p1), .val (.int p2), .val (.int p3), .val (.int p4), .val (.int p5), .val (.int bo), .val (.int bn), .val (.int be), .val (.ref b1), .unset, .unset, .unset, .unset, .unset, .unset, .unset, .unset, .unset, .unset, .unset] [])) _
    refine XS.aload X2.here hx rfl (hb hby at_57) rfl rfl ?_
    show Steps p.tables e below (T2.setTop (mkF m 59 #[.val (.int p1), .val (.int p2), .val (.int p3), .val (.int p4), .val (.int p5), .val (.int bo), .val (.int bn), .val (.int be), .val (.ref b1), .unset, .unset, .unset, .unset, .unset, .unset, .unset, .unset, .unset, .unset, .unset] [(.ref b1)])) _
    refine XS.iconst X2.here hx rfl (hb hby at_59) ?_
    show Steps p.tables e below (T2.setTop (mkF m 60 #[.val (.int p1), .val (.int p2), .val (.int p3), .val (.int p4), .val (.int p5), .val (.int bo), .val (.int bn), .val (.int be), .val (.ref b1), .unset, .unset, .unset, .unset, .unset, .unset, .unset, .unset, .unset, .unset, .unset] [(.int (1 : Int32)), (.ref b1)])) _
    refine XS.iloadN X2.here hx rfl (hb hby at_60) rfl ?_
    show Steps p.tables e below (T2.setTop (mkF m 61 #[.val (.int p1), .val (.int p2), .val (.int p3), .val (.int p4), .val (.int p5), .val (.int bo), .val (.int bn), .val (.int be), .val (.ref b1), .unset, .unset, .unset, .unset, .unset, .unset, .unset, .unset, .unset, .unset, .unset] [(.int p1), (.int (1 : Int32)), (.ref b1)])) _
    refine XS.bipush X2.here hx rfl (hb hby at_61) ?_
    show Steps p.tables e below (T2.setTop (mkF m 63 #[.val (.int p1), .val (.int p2), .val (.int p3), .val (.int p4), .val (.int p5), .val (.int bo), .val (.int bn), .val (.int be), .val (.ref b1), .unset, .unset, .unset, .unset, .unset, .unset, .unset, .unset, .unset, .unset, .unset] [(.int (8 : Int32)), (.int p1), (.int (1 : Int32)), (.ref b1)])) _
    refine XS.iushr X2.here hx rfl (hb hby at_63) rfl ?_
    show Steps p.tables e below (T2.setTop (mkF m 64 #[.val (.int p1), .val (.int p2), .val (.int p3), .val (.int p4), .val (.int p5), .val (.int bo), .val (.int bn), .val (.int be), .val (.ref b1), .unset, .unset, .unset, .unset, .unset, .unset, .unset, .unset, .unset, .unset, .unset] [(.int ((p1.toUInt32 >>> ((8 : Int32) &&& 31).toUInt32).toInt32)), (.int (1 : Int32)), (.ref b1)])) _
    refine XS.sipush X2.here hx rfl (hb hby at_64) ?_
    show Steps p.tables e below (T2.setTop (mkF m 67 #[.val (.int p1), .val (.int p2), .val (.int p3), .val (.int p4), .val (.int p5), .val (.int bo), .val (.int bn), .val (.int be), .val (.ref b1), .unset, .unset, .unset, .unset, .unset, .unset, .unset, .unset, .unset, .unset, .unset] [(.int (255 : Int32)), (.int ((p1.toUInt32 >>> ((8 : Int32) &&& 31).toUInt32).toInt32)), (.int (1 : Int32)), (.ref b1)])) _
    refine XS.iand X2.here hx rfl (hb hby at_67) rfl ?_
    show Steps p.tables e below (T2.setTop (mkF m 68 #[.val (.int p1), .val (.int p2), .val (.int p3), .val (.int p4), .val (.int p5), .val (.int bo), .val (.int bn), .val (.int be), .val (.ref b1), .unset, .unset, .unset, .unset, .unset, .unset, .unset, .unset, .unset, .unset, .unset] [(.int (((p1.toUInt32 >>> ((8 : Int32) &&& 31).toUInt32).toInt32) &&& (255 : Int32))), (.int (1 : Int32)), (.ref b1)])) _
    refine XS.i2c X2.here hx rfl (hb hby at_68) rfl ?_
    show Steps p.tables e below (T2.setTop (mkF m 69 #[.val (.int p1), .val (.int p2), .val (.int p3), .val (.int p4), .val (.int p5), .val (.int bo), .val (.int bn), .val (.int be), .val (.ref b1), .unset, .unset, .unset, .unset, .unset, .unset, .unset, .unset, .unset, .unset, .unset] [(.int ((((p1.toUInt32 >>> ((8 : Int32) &&& 31).toUInt32).toInt32) &&& (255 : Int32)).toUInt32.toUInt16.toUInt32.toInt32)), (.int (1 : Int32)), (.ref b1)])) _
    exact k
  rw [i2c_mask]
  obtain ⟨c1, hc1⟩ : ∃ z : Int32, z = (((p1.toUInt32 >>> ((8 : Int32) &&& 31).toUInt32).toInt32) &&& (255 : Int32)) := ⟨_, rfl⟩
  rw [← hc1]
  have bc1 : ¬ c1 < 0 ∧ ¬ (255 : Int32) < c1 := by rw [hc1]; exact own_b255 _
  have cc1 : nar .char c1 = c1 := by rw [hc1]; exact i2c_mask _
  obtain ⟨cl3, Ar3, q3, Sz3, Nn3, Hs3, Gt3⟩ := V2
  have hin3 : ¬ ((1 : Int32) < 0 ∨ cl3.slots.size ≤ ((1 : Int32)).toNatClampNeg) := inb_of Sz3 ⟨by decide, by decide⟩
  obtain ⟨T3, h3, X3, e3, W3, st3⟩ := stC X2 hx hZ e2 Ar3 (j := (1 : Int32)) hin3 (g := (mkF m 69 #[.val (.int p1), .val (.int p2), .val (.int p3), .val (.int p4), .val (.int p5), .val (.int bo), .val (.int bn), .val (.int be), .val (.ref b1), .unset, .unset, .unset, .unset, .unset, .unset, .unset, .unset, .unset, .unset, .unset] [(.int c1), (.int (1 : Int32)), (.ref b1)])) rfl rfl (hb hby at_69)
  have V3 := Arv.set Ar3 q3 Sz3 Nn3 Hs3 Gt3 (fits_nar_char _) W3 1 rfl (Nat.le_of_ble_eq_true rfl)
  rw [cc1] at V3
  have V3 : Arv Z h3 b1 k1 .char (2 : Int32) [(.int c0), (.int c1)] (.int (0 : Int32)) := V3
  replace G1 := G1.wr W3
  replace O := O.wr W3 g_b1
  replace hk := Nat.le_trans hk (Keep.of_wr W3).1
  replace KM := KM.wr W3 (Or.inr m_b1_1)
  replace N := Fr.snoc X3 N g_b1
  refine own_go (B := T3.setTop (mkF m 70 #[.val (.int p1), .val (.int p2), .val (.int p3), .val (.int p4), .val (.int p5), .val (.int bo), .val (.int bn), .val (.int be), .val (.ref b1), .unset, .unset, .unset, .unset, .unset, .unset, .unset, .unset, .unset, .unset, .unset] [])) st3 ?_
  refine own_go (B := T3.setTop (mkF m 71 #[.val (.int p1), .val (.int p2), .val (.int p3), .val (.int p4), .val (.int p5), .val (.int bo), .val (.int bn), .val (.int be), .val (.ref b1), .unset, .unset, .unset, .unset, .unset, .unset, .unset, .unset, .unset, .unset, .unset] [(.int (3 : Int32))])) (fun t k => ?_) ?_
  · show Steps p.tables e below (T3.setTop (mkF m 70 #[.val (.int p1), .val (.int p2), .val (.int p3), .val (.int p4), .val (.int p5), .val (.int bo), .val (.int bn), .val (.int be), .val (.ref b1), .unset, .unset, .unset, .unset, .unset, .unset, .unset, .unset, .unset, .unset, .unset] [])) _
    refine XS.iconst X3.here hx rfl (hb hby at_70) ?_
    show Steps p.tables e below (T3.setTop (mkF m 71 #[.val (.int p1), .val (.int p2), .val (.int p3), .val (.int p4), .val (.int p5), .val (.int bo), .val (.int bn), .val (.int be), .val (.ref b1), .unset, .unset, .unset, .unset, .unset, .unset, .unset, .unset, .unset, .unset, .unset] [(.int (3 : Int32))])) _
    exact k
  obtain ⟨T4, h4, k4, X4, e4, E4, A4, G4, st4⟩ := newPE X3 hx hZ (hw _ (List.mem_of_getElem? (i := 0) rfl)) e3 (g := (mkF m 71 #[.val (.int p1), .val (.int p2), .val (.int p3), .val (.int p4), .val (.int p5), .val (.int bo), .val (.int bn), .val (.int be), .val (.ref b1), .unset, .unset, .unset, .unset, .unset, .unset, .unset, .unset, .unset, .unset, .unset] [(.int (3 : Int32))])) rfl (hb hby at_71) rfl (by decide) (cap := 3) (by decide) (by decide) (by decide) (by decide) (ad := "[C") (by decide)
  obtain ⟨b4, g4⟩ : ∃ z, z = h3.size := ⟨_, rfl⟩
  rw [← g4] at A4 G4 st4
  have lt_b1_b4 : b1 < b4 := Nat.lt_of_lt_of_le G1.lt (Nat.le_of_eq g4.symm)
  have g_b4 : n0 ≤ b4 := Nat.le_trans (own_oldsz O) (Nat.le_of_eq g4.symm)
  have m_b4_4 : h0.size ≤ b4 := Nat.le_trans KM.1 (Nat.le_of_eq g4.symm)
  replace G1 := G1.ext E4
  replace V3 := V3.ext E4
  replace O := O.ext E4
  replace hk := Nat.le_trans hk E4.1
  replace KM := KM.ext E4
  have V4 : Arv Z h4 b4 k4 .char (3 : Int32) [(.int (0 : Int32)), (.int (0 : Int32)), (.int (0 : Int32))] (.int (0 : Int32)) := (Arv.new A4 (by decide)).pad (pad_rep [] (.int (0 : Int32)) 3)
  refine own_go (B := T4.setTop (mkF m 73 #[.val (.int p1), .val (.int p2), .val (.int p3), .val (.int p4), .val (.int p5), .val (.int bo), .val (.int bn), .val (.int be), .val (.ref b1), .unset, .unset, .unset, .unset, .unset, .unset, .unset, .unset, .unset, .unset, .unset] [(.ref b4)])) st4 ?_
  refine own_go (B := T4.setTop (mkF m 84 #[.val (.int p1), .val (.int p2), .val (.int p3), .val (.int p4), .val (.int p5), .val (.int bo), .val (.int bn), .val (.int be), .val (.ref b1), .val (.ref b4), .unset, .unset, .unset, .unset, .unset, .unset, .unset, .unset, .unset, .unset] [(.int ((p2 &&& (255 : Int32)).toUInt32.toUInt16.toUInt32.toInt32)), (.int (0 : Int32)), (.ref b4)])) (fun t k => ?_) ?_
  · show Steps p.tables e below (T4.setTop (mkF m 73 #[.val (.int p1), .val (.int p2), .val (.int p3), .val (.int p4), .val (.int p5), .val (.int bo), .val (.int bn), .val (.int be), .val (.ref b1), .unset, .unset, .unset, .unset, .unset, .unset, .unset, .unset, .unset, .unset, .unset] [(.ref b4)])) _
    refine XS.astore X4.here hx rfl (hb hby at_73) rfl rfl (l' := #[.val (.int p1), .val (.int p2), .val (.int p3), .val (.int p4), .val (.int p5), .val (.int bo), .val (.int bn), .val (.int be), .val (.ref b1), .val (.ref b4), .unset, .unset, .unset, .unset, .unset, .unset, .unset, .unset, .unset, .unset]) rfl ?_
    show Steps p.tables e below (T4.setTop (mkF m 75 #[.val (.int p1), .val (.int p2), .val (.int p3), .val (.int p4), .val (.int p5), .val (.int bo), .val (.int bn), .val (.int be), .val (.ref b1), .val (.ref b4), .unset, .unset, .unset, .unset, .unset, .unset, .unset, .unset, .unset, .unset] [])) _
    refine XS.aload X4.here hx rfl (hb hby at_75) rfl rfl ?_
    show Steps p.tables e below (T4.setTop (mkF m 77 #[.val (.int p1), .val (.int p2), .val (.int p3), .val (.int p4), .val (.int p5), .val (.int bo), .val (.int bn), .val (.int be), .val (.ref b1), .val (.ref b4), .unset, .unset, .unset, .unset, .unset, .unset, .unset, .unset, .unset, .unset] [(.ref b4)])) _
    refine XS.iconst X4.here hx rfl (hb hby at_77) ?_
    show Steps p.tables e below (T4.setTop (mkF m 78 #[.val (.int p1), .val (.int p2), .val (.int p3), .val (.int p4), .val (.int p5), .val (.int bo), .val (.int bn), .val (.int be), .val (.ref b1), .val (.ref b4), .unset, .unset, .unset, .unset, .unset, .unset, .unset, .unset, .unset, .unset] [(.int (0 : Int32)), (.ref b4)])) _
    refine XS.iloadN X4.here hx rfl (hb hby at_78) rfl ?_
    show Steps p.tables e below (T4.setTop (mkF m 79 #[.val (.int p1), .val (.int p2), .val (.int p3), .val (.int p4), .val (.int p5), .val (.int bo), .val (.int bn), .val (.int be), .val (.ref b1), .val (.ref b4), .unset, .unset, .unset, .unset, .unset, .unset, .unset, .unset, .unset, .unset] [(.int p2), (.int (0 : Int32)), (.ref b4)])) _
    refine XS.sipush X4.here hx rfl (hb hby at_79) ?_
    show Steps p.tables e below (T4.setTop (mkF m 82 #[.val (.int p1), .val (.int p2), .val (.int p3), .val (.int p4), .val (.int p5), .val (.int bo), .val (.int bn), .val (.int be), .val (.ref b1), .val (.ref b4), .unset, .unset, .unset, .unset, .unset, .unset, .unset, .unset, .unset, .unset] [(.int (255 : Int32)), (.int p2), (.int (0 : Int32)), (.ref b4)])) _
    refine XS.iand X4.here hx rfl (hb hby at_82) rfl ?_
    show Steps p.tables e below (T4.setTop (mkF m 83 #[.val (.int p1), .val (.int p2), .val (.int p3), .val (.int p4), .val (.int p5), .val (.int bo), .val (.int bn), .val (.int be), .val (.ref b1), .val (.ref b4), .unset, .unset, .unset, .unset, .unset, .unset, .unset, .unset, .unset, .unset] [(.int (p2 &&& (255 : Int32))), (.int (0 : Int32)), (.ref b4)])) _
    refine XS.i2c X4.here hx rfl (hb hby at_83) rfl ?_
    show Steps p.tables e below (T4.setTop (mkF m 84 #[.val (.int p1), .val (.int p2), .val (.int p3), .val (.int p4), .val (.int p5), .val (.int bo), .val (.int bn), .val (.int be), .val (.ref b1), .val (.ref b4), .unset, .unset, .unset, .unset, .unset, .unset, .unset, .unset, .unset, .unset] [(.int ((p2 &&& (255 : Int32)).toUInt32.toUInt16.toUInt32.toInt32)), (.int (0 : Int32)), (.ref b4)])) _
    exact k
  rw [i2c_mask]
  obtain ⟨c2, hc2⟩ : ∃ z : Int32, z = (p2 &&& (255 : Int32)) := ⟨_, rfl⟩
  rw [← hc2]
  have bc2 : ¬ c2 < 0 ∧ ¬ (255 : Int32) < c2 := by rw [hc2]; exact own_b255 _
  have cc2 : nar .char c2 = c2 := by rw [hc2]; exact i2c_mask _
  obtain ⟨cl5, Ar5, q5, Sz5, Nn5, Hs5, Gt5⟩ := V4
  have hin5 : ¬ ((0 : Int32) < 0 ∨ cl5.slots.size ≤ ((0 : Int32)).toNatClampNeg) := inb_of Sz5 ⟨by decide, by decide⟩
  obtain ⟨T5, h5, X5, e5, W5, st5⟩ := stC X4 hx hZ e4 Ar5 (j := (0 : Int32)) hin5 (g := (mkF m 84 #[.val (.int p1), .val (.int p2), .val (.int p3), .val (.int p4), .val (.int p5), .val (.int bo), .val (.int bn), .val (.int be), .val (.ref b1), .val (.ref b4), .unset, .unset, .unset, .unset, .unset, .unset, .unset, .unset, .unset, .unset] [(.int c2), (.int (0 : Int32)), (.ref b4)])) rfl rfl (hb hby at_84)
  have V5 := Arv.set Ar5 q5 Sz5 Nn5 Hs5 Gt5 (fits_nar_char _) W5 0 rfl (Nat.le_of_ble_eq_true rfl)
  rw [cc2] at V5
  have V5 : Arv Z h5 b4 k4 .char (3 : Int32) [(.int c2), (.int (0 : Int32)), (.int (0 : Int32))] (.int (0 : Int32)) := V5
  replace G1 := G1.wr W5
  replace V3 := V3.other W5 (Nat.ne_of_lt lt_b1_b4)
  replace G4 := G4.wr W5
  replace O := O.wr W5 g_b4
  replace hk := Nat.le_trans hk (Keep.of_wr W5).1
  replace KM := KM.wr W5 (Or.inr m_b4_4)
  replace N := Fr.snoc X5 N g_b4
  refine own_go (B := T5.setTop (mkF m 85 #[.val (.int p1), .val (.int p2), .val (.int p3), .val (.int p4), .val (.int p5), .val (.int bo), .val (.int bn), .val (.int be), .val (.ref b1), .val (.ref b4), .unset, .unset, .unset, .unset, .unset, .unset, .unset, .unset, .unset, .unset] [])) st5 ?_
  refine own_go (B := T5.setTop (mkF m 97 #[.val (.int p1), .val (.int p2), .val (.int p3), .val (.int p4), .val (.int p5), .val (.int bo), .val (.int bn), .val (.int be), .val (.ref b1), .val (.ref b4), .unset, .unset, .unset, .unset, .unset, .unset, .unset, .unset, .unset, .unset] [(.int ((((p2.toUInt32 >>> ((8 : Int32) &&& 31).toUInt32).toInt32) &&& (255 : Int32)).toUInt32.toUInt16.toUInt32.toInt32)), (.int (1 : Int32)), (.ref b4)])) (fun t k => ?_) ?_
  · show Steps p.tables e below (T5.setTop (mkF m 85 #[.val (.int p1), .val (.int p2), .val (.int p3), .val (.int p4), .val (.int p5), .val (.int bo), .val (.int bn), .val (.int be), .val (.ref b1), .val (.ref b4), .unset, .unset, .unset, .unset, .unset, .unset, .unset, .unset, .unset, .unset] [])) _
    refine XS.aload X5.here hx rfl (hb hby at_85) rfl rfl ?_
    show Steps p.tables e below (T5.setTop (mkF m 87 #[.val (.int p1), .val (.int p2), .val (.int p3), .val (.int p4), .val (.int p5), .val (.int bo), .val (.int bn), .val (.int be), .val (.ref b1), .val (.ref b4), .unset, .unset, .unset, .unset, .unset, .unset, .unset, .unset, .unset, .unset] [(.ref b4)])) _
    refine XS.iconst X5.here hx rfl (hb hby at_87) ?_
    show Steps p.tables e below (T5.setTop (mkF m 88 #[.val (.int p1), .val (.int p2), .val (.int p3), .val (.int p4), .val (.int p5), .val (.int bo), .val (.int bn), .val (.int be), .val (.ref b1), .val (.ref b4), .unset, .unset, .unset, .unset, .unset, .unset, .unset, .unset, .unset, .unset] [(.int (1 : Int32)), (.ref b4)])) _
    refine XS.iloadN X5.here hx rfl (hb hby at_88) rfl ?_
    show Steps p.tables e below (T5.setTop (mkF m 89 #[.val (.int p1), .val (.int p2), .val (.int p3), .val (.int p4), .val (.int p5), .val (.int bo), .val (.int bn), .val (.int be), .val (.ref b1), .val (.ref b4), .unset, .unset, .unset, .unset, .unset, .unset, .unset, .unset, .unset, .unset] [(.int p2), (.int (1 : Int32)), (.ref b4)])) _
    refine XS.bipush X5.here hx rfl (hb hby at_89) ?_
    show Steps p.tables e below (T5.setTop (mkF m 91 #[.val (.int p1), .val (.int p2), .val (.int p3), .val (.int p4), .val (.int p5), .val (.int bo), .val (.int bn), .val (.int be), .val (.ref b1), .val (.ref b4), .unset, .unset, .unset, .unset, .unset, .unset, .unset, .unset, .unset, .unset] [(.int (8 : Int32)), (.int p2), (.int (1 : Int32)), (.ref b4)])) _
    refine XS.iushr X5.here hx rfl (hb hby at_91) rfl ?_
    show Steps p.tables e below (T5.setTop (mkF m 92 #[.val (.int p1), .val (.int p2), .val (.int p3), .val (.int p4), .val (.int p5), .val (.int bo), .val (.int bn), .val (.int be), .val (.ref b1), .val (.ref b4), .unset, .unset, .unset, .unset, .unset, .unset, .unset, .unset, .unset, .unset] [(.int ((p2.toUInt32 >>> ((8 : Int32) &&& 31).toUInt32).toInt32)), (.int (1 : Int32)), (.ref b4)])) _
    refine XS.sipush X5.here hx rfl (hb hby at_92) ?_
    show Steps p.tables e below (T5.setTop (mkF m 95 #[.val (.int p1), .val (.int p2), .val (.int p3), .val (.int p4), .val (.int p5), .val (.int bo), .val (.int bn), .val (.int be), .val (.ref b1), .val (.ref b4), .unset, .unset, .unset, .unset, .unset, .unset, .unset, .unset, .unset, .unset] [(.int (255 : Int32)), (.int ((p2.toUInt32 >>> ((8 : Int32) &&& 31).toUInt32).toInt32)), (.int (1 : Int32)), (.ref b4)])) _
    refine XS.iand X5.here hx rfl (hb hby at_95) rfl ?_
    show Steps p.tables e below (T5.setTop (mkF m 96 #[.val (.int p1), .val (.int p2), .val (.int p3), .val (.int p4), .val (.int p5), .val (.int bo), .val (.int bn), .val (.int be), .val (.ref b1), .val (.ref b4), .unset, .unset, .unset, .unset, .unset, .unset, .unset, .unset, .unset, .unset] [(.int (((p2.toUInt32 >>> ((8 : Int32) &&& 31).toUInt32).toInt32) &&& (255 : Int32))), (.int (1 : Int32)), (.ref b4)])) _
    refine XS.i2c X5.here hx rfl (hb hby at_96) rfl ?_
    show Steps p.tables e below (T5.setTop (mkF m 97 #[.val (.int p1), .val (.int p2), .val (.int p3), .val (.int p4), .val (.int p5), .val (.int bo), .val (.int bn), .val (.int be), .val (.ref b1), .val (.ref b4), .unset, .unset, .unset, .unset, .unset, .unset, .unset, .unset, .unset, .unset] [(.int ((((p2.toUInt32 >>> ((8 : Int32) &&& 31).toUInt32).toInt32) &&& (255 : Int32)).toUInt32.toUInt16.toUInt32.toInt32)), (.int (1 : Int32)), (.ref b4)])) _
    exact k
  rw [i2c_mask]
  obtain ⟨c3, hc3⟩ : ∃ z : Int32, z = (((p2.toUInt32 >>> ((8 : Int32) &&& 31).toUInt32).toInt32) &&& (255 : Int32)) := ⟨_, rfl⟩
  rw [← hc3]
  have bc3 : ¬ c3 < 0 ∧ ¬ (255 : Int32) < c3 := by rw [hc3]; exact own_b255 _
  have cc3 : nar .char c3 = c3 := by rw [hc3]; exact i2c_mask _
  obtain ⟨cl6, Ar6, q6, Sz6, Nn6, Hs6, Gt6⟩ := V5
  have hin6 : ¬ ((1 : Int32) < 0 ∨ cl6.slots.size ≤ ((1 : Int32)).toNatClampNeg) := inb_of Sz6 ⟨by decide, by decide⟩
  obtain ⟨T6, h6, X6, e6, W6, st6⟩ := stC X5 hx hZ e5 Ar6 (j := (1 : Int32)) hin6 (g := (mkF m 97 #[.val (.int p1), .val (.int p2), .val (.int p3), .val (.int p4), .val (.int p5), .val (.int bo), .val (.int bn), .val (.int be), .val (.ref b1), .val (.ref b4), .unset, .unset, .unset, .unset, .unset, .unset, .unset, .unset, .unset, .unset] [(.int c3), (.int (1 : Int32)), (.ref b4)])) rfl rfl (hb hby at_97)
  have V6 := Arv.set Ar6 q6 Sz6 Nn6 Hs6 Gt6 (fits_nar_char _) W6 1 rfl (Nat.le_of_ble_eq_true rfl)
  rw [cc3] at V6
  have V6 : Arv Z h6 b4 k4 .char (3 : Int32) [(.int c2), (.int c3), (.int (0 : Int32))] (.int (0 : Int32)) := V6
  replace G1 := G1.wr W6
  replace V3 := V3.other W6 (Nat.ne_of_lt lt_b1_b4)
  replace G4 := G4.wr W6
  replace O := O.wr W6 g_b4
  replace hk := Nat.le_trans hk (Keep.of_wr W6).1
  replace KM := KM.wr W6 (Or.inr m_b4_4)
  replace N := Fr.snoc X6 N g_b4
  refine own_go (B := T6.setTop (mkF m 98 #[.val (.int p1), .val (.int p2), .val (.int p3), .val (.int p4), .val (.int p5), .val (.int bo), .val (.int bn), .val (.int be), .val (.ref b1), .val (.ref b4), .unset, .unset, .unset, .unset, .unset, .unset, .unset, .unset, .unset, .unset] [])) st6 ?_
  refine own_go (B := T6.setTop (mkF m 110 #[.val (.int p1), .val (.int p2), .val (.int p3), .val (.int p4), .val (.int p5), .val (.int bo), .val (.int bn), .val (.int be), .val (.ref b1), .val (.ref b4), .unset, .unset, .unset, .unset, .unset, .unset, .unset, .unset, .unset, .unset] [(.int ((((p2.toUInt32 >>> ((16 : Int32) &&& 31).toUInt32).toInt32) &&& (255 : Int32)).toUInt32.toUInt16.toUInt32.toInt32)), (.int (2 : Int32)), (.ref b4)])) (fun t k => ?_) ?_
  · show Steps p.tables e below (T6.setTop (mkF m 98 #[.val (.int p1), .val (.int p2), .val (.int p3), .val (.int p4), .val (.int p5), .val (.int bo), .val (.int bn), .val (.int be), .val (.ref b1), .val (.ref b4), .unset, .unset, .unset, .unset, .unset, .unset, .unset, .unset, .unset, .unset] [])) _
    refine XS.aload X6.here hx rfl (hb hby at_98) rfl rfl ?_
    show Steps p.tables e below (T6.setTop (mkF m 100 #[.val (.int p1), .val (.int p2), .val (.int p3), .val (.int p4), .val (.int p5), .val (.int bo), .val (.int bn), .val (.int be), .val (.ref b1), .val (.ref b4), .unset, .unset, .unset, .unset, .unset, .unset, .unset, .unset, .unset, .unset] [(.ref b4)])) _
    refine XS.iconst X6.here hx rfl (hb hby at_100) ?_
    show Steps p.tables e below (T6.setTop (mkF m 101 #[.val (.int p1), .val (.int p2), .val (.int p3), .val (.int p4), .val (.int p5), .val (.int bo), .val (.int bn), .val (.int be), .val (.ref b1), .val (.ref b4), .unset, .unset, .unset, .unset, .unset, .unset, .unset, .unset, .unset, .unset] [(.int (2 : Int32)), (.ref b4)])) _
    refine XS.iloadN X6.here hx rfl (hb hby at_101) rfl ?_
    show Steps p.tables e below (T6.setTop (mkF m 102 #[.val (.int p1), .val (.int p2), .val (.int p3), .val (.int p4), .val (.int p5), .val (.int bo), .val (.int bn), .val (.int be), .val (.ref b1), .val (.ref b4), .unset, .unset, .unset, .unset, .unset, .unset, .unset, .unset, .unset, .unset] [(.int p2), (.int (2 : Int32)), (.ref b4)])) _
    refine XS.bipush X6.here hx rfl (hb hby at_102) ?_
    show Steps p.tables e below (T6.setTop (mkF m 104 #[.val (.int p1), .val (.int p2), .val (.int p3), .val (.int p4), .val (.int p5), .val (.int bo), .val (.int bn), .val (.int be), .val (.ref b1), .val (.ref b4), .unset, .unset, .unset, .unset, .unset, .unset, .unset, .unset, .unset, .unset] [(.int (16 : Int32)), (.int p2), (.int (2 : Int32)), (.ref b4)])) _
    refine XS.iushr X6.here hx rfl (hb hby at_104) rfl ?_
    show Steps p.tables e below (T6.setTop (mkF m 105 #[.val (.int p1), .val (.int p2), .val (.int p3), .val (.int p4), .val (.int p5), .val (.int bo), .val (.int bn), .val (.int be), .val (.ref b1), .val (.ref b4), .unset, .unset, .unset, .unset, .unset, .unset, .unset, .unset, .unset, .unset] [(.int ((p2.toUInt32 >>> ((16 : Int32) &&& 31).toUInt32).toInt32)), (.int (2 : Int32)), (.ref b4)])) _
    refine XS.sipush X6.here hx rfl (hb hby at_105) ?_
    show Steps p.tables e below (T6.setTop (mkF m 108 #[.val (.int p1), .val (.int p2), .val (.int p3), .val (.int p4), .val (.int p5), .val (.int bo), .val (.int bn), .val (.int be), .val (.ref b1), .val (.ref b4), .unset, .unset, .unset, .unset, .unset, .unset, .unset, .unset, .unset, .unset] [(.int (255 : Int32)), (.int ((p2.toUInt32 >>> ((16 : Int32) &&& 31).toUInt32).toInt32)), (.int (2 : Int32)), (.ref b4)])) _
    refine XS.iand X6.here hx rfl (hb hby at_108) rfl ?_
    show Steps p.tables e below (T6.setTop (mkF m 109 #[.val (.int p1), .val (.int p2), .val (.int p3), .val (.int p4), .val (.int p5), .val (.int bo), .val (.int bn), .val (.int be), .val (.ref b1), .val (.ref b4), .unset, .unset, .unset, .unset, .unset, .unset, .unset, .unset, .unset, .unset] [(.int (((p2.toUInt32 >>> ((16 : Int32) &&& 31).toUInt32).toInt32) &&& (255 : Int32))), (.int (2 : Int32)), (.ref b4)])) _
    refine XS.i2c X6.here hx rfl (hb hby at_109) rfl ?_
    show Steps p.tables e below (T6.setTop (mkF m 110 #[.val (.int p1), .val (.int p2), .val (.int p3), .val (.int p4), .val (.int p5), .val (.int bo), .val (.int bn), .val (.int be), .val (.ref b1), .val (.ref b4), .unset, .unset, .unset, .unset, .unset, .unset, .unset, .unset, .unset, .unset] [(.int ((((p2.toUInt32 >>> ((16 : Int32) &&& 31).toUInt32).toInt32) &&& (255 : Int32)).toUInt32.toUInt16.toUInt32.toInt32)), (.int (2 : Int32)), (.ref b4)])) _
    exact k
  rw [i2c_mask]
  obtain ⟨c4, hc4⟩ : ∃ z : Int32, z = (((p2.toUInt32 >>> ((16 : Int32) &&& 31).toUInt32).toInt32) &&& (255 : Int32)) := ⟨_, rfl⟩
  rw [← hc4]
  have bc4 : ¬ c4 < 0 ∧ ¬ (255 : Int32) < c4 := by rw [hc4]; exact own_b255 _
  have cc4 : nar .char c4 = c4 := by rw [hc4]; exact i2c_mask _
  obtain ⟨cl7, Ar7, q7, Sz7, Nn7, Hs7, Gt7⟩ := V6
  have hin7 : ¬ ((2 : Int32) < 0 ∨ cl7.slots.size ≤ ((2 : Int32)).toNatClampNeg) := inb_of Sz7 ⟨by decide, by decide⟩
  obtain ⟨T7, h7, X7, e7, W7, st7⟩ := stC X6 hx hZ e6 Ar7 (j := (2 : Int32)) hin7 (g := (mkF m 110 #[.val (.int p1), .val (.int p2), .val (.int p3), .val (.int p4), .val (.int p5), .val (.int bo), .val (.int bn), .val (.int be), .val (.ref b1), .val (.ref b4), .unset, .unset, .unset, .unset, .unset, .unset, .unset, .unset, .unset, .unset] [(.int c4), (.int (2 : Int32)), (.ref b4)])) rfl rfl (hb hby at_110)
  have V7 := Arv.set Ar7 q7 Sz7 Nn7 Hs7 Gt7 (fits_nar_char _) W7 2 rfl (Nat.le_of_ble_eq_true rfl)
  rw [cc4] at V7
  have V7 : Arv Z h7 b4 k4 .char (3 : Int32) [(.int c2), (.int c3), (.int c4)] (.int (0 : Int32)) := V7
  replace G1 := G1.wr W7
  replace V3 := V3.other W7 (Nat.ne_of_lt lt_b1_b4)
  replace G4 := G4.wr W7
  replace O := O.wr W7 g_b4
  replace hk := Nat.le_trans hk (Keep.of_wr W7).1
  replace KM := KM.wr W7 (Or.inr m_b4_4)
  replace N := Fr.snoc X7 N g_b4
  refine own_go (B := T7.setTop (mkF m 111 #[.val (.int p1), .val (.int p2), .val (.int p3), .val (.int p4), .val (.int p5), .val (.int bo), .val (.int bn), .val (.int be), .val (.ref b1), .val (.ref b4), .unset, .unset, .unset, .unset, .unset, .unset, .unset, .unset, .unset, .unset] [])) st7 ?_
  refine own_go (B := T7.setTop (mkF m 113 #[.val (.int p1), .val (.int p2), .val (.int p3), .val (.int p4), .val (.int p5), .val (.int bo), .val (.int bn), .val (.int be), .val (.ref b1), .val (.ref b4), .unset, .unset, .unset, .unset, .unset, .unset, .unset, .unset, .unset, .unset] [(.int bn)])) (fun t k => ?_) ?_
  · show Steps p.tables e below (T7.setTop (mkF m 111 #[.val (.int p1), .val (.int p2), .val (.int p3), .val (.int p4), .val (.int p5), .val (.int bo), .val (.int bn), .val (.int be), .val (.ref b1), .val (.ref b4), .unset, .unset, .unset, .unset, .unset, .unset, .unset, .unset, .unset, .unset] [])) _
    refine XS.iload X7.here hx rfl (hb hby at_111) rfl ?_
    show Steps p.tables e below (T7.setTop (mkF m 113 #[.val (.int p1), .val (.int p2), .val (.int p3), .val (.int p4), .val (.int p5), .val (.int bo), .val (.int bn), .val (.int be), .val (.ref b1), .val (.ref b4), .unset, .unset, .unset, .unset, .unset, .unset, .unset, .unset, .unset, .unset] [(.int bn)])) _
    exact k
  by_cases kn : bn = (0 : Int32)
  · refine own_go (B := T7.setTop (mkF m 122 #[.val (.int p1), .val (.int p2), .val (.int p3), .val (.int p4), .val (.int p5), .val (.int bo), .val (.int bn), .val (.int be), .val (.ref b1), .val (.ref b4), .unset, .unset, .unset, .unset, .unset, .unset, .unset, .unset, .unset, .unset] [(.int be)])) (fun t k => ?_) ?_
    · show Steps p.tables e below (T7.setTop (mkF m 113 #[.val (.int p1), .val (.int p2), .val (.int p3), .val (.int p4), .val (.int p5), .val (.int bo), .val (.int bn), .val (.int be), .val (.ref b1), .val (.ref b4), .unset, .unset, .unset, .unset, .unset, .unset, .unset, .unset, .unset, .unset] [(.int bn)])) _
      refine XS.ifYes X7.here hx rfl (pc0 := 113) (pc' := 120) rfl (hb hby at_113) rfl ((if0 _ _).trans (teq kn).1) (by decide) (by decide) ?_
      show Steps p.tables e below (T7.setTop (mkF m 120 #[.val (.int p1), .val (.int p2), .val (.int p3), .val (.int p4), .val (.int p5), .val (.int bo), .val (.int bn), .val (.int be), .val (.ref b1), .val (.ref b4), .unset, .unset, .unset, .unset, .unset, .unset, .unset, .unset, .unset, .unset] [])) _
      refine XS.iload X7.here hx rfl (hb hby at_120) rfl ?_
      show Steps p.tables e below (T7.setTop (mkF m 122 #[.val (.int p1), .val (.int p2), .val (.int p3), .val (.int p4), .val (.int p5), .val (.int bo), .val (.int bn), .val (.int be), .val (.ref b1), .val (.ref b4), .unset, .unset, .unset, .unset, .unset, .unset, .unset, .unset, .unset, .unset] [(.int be)])) _
      exact k
    by_cases ke : be = (0 : Int32)
    · refine own_go (B := T7.setTop (mkF m 138 #[.val (.int p1), .val (.int p2), .val (.int p3), .val (.int p4), .val (.int p5), .val (.int bo), .val (.int bn), .val (.int be), .val (.ref b1), .val (.ref b4), .unset, .unset, .unset, .unset, .unset, .unset, .unset, .unset, .unset, .unset] [])) (fun t k => ?_) ?_
      · show Steps p.tables e below (T7.setTop (mkF m 122 #[.val (.int p1), .val (.int p2), .val (.int p3), .val (.int p4), .val (.int p5), .val (.int bo), .val (.int bn), .val (.int be), .val (.ref b1), .val (.ref b4), .unset, .unset, .unset, .unset, .unset, .unset, .unset, .unset, .unset, .unset] [(.int be)])) _
        refine XS.ifYes X7.here hx rfl (pc0 := 122) (pc' := 138) rfl (hb hby at_122) rfl ((if0 _ _).trans (teq ke).1) (by decide) (by decide) ?_
        show Steps p.tables e below (T7.setTop (mkF m 138 #[.val (.int p1), .val (.int p2), .val (.int p3), .val (.int p4), .val (.int p5), .val (.int bo), .val (.int bn), .val (.int be), .val (.ref b1), .val (.ref b4), .unset, .unset, .unset, .unset, .unset, .unset, .unset, .unset, .unset, .unset] [])) _
        exact k
      obtain ⟨T8, h8, X8, e8, E8, A8, D8, -, st8⟩ := newO X7 hx hZ hown (hw _ (List.mem_of_getElem? (i := 1) rfl)) (hw _ (List.mem_of_getElem? (i := 2) rfl)) (hw _ (List.mem_of_getElem? (i := 3) rfl)) e7 (g := (mkF m 138 #[.val (.int p1), .val (.int p2), .val (.int p3), .val (.int p4), .val (.int p5), .val (.int bo), .val (.int bn), .val (.int be), .val (.ref b1), .val (.ref b4), .unset, .unset, .unset, .unset, .unset, .unset, .unset, .unset, .unset, .unset] [])) rfl (hb hby at_138) (by decide) (by decide)
      obtain ⟨b8, g8⟩ : ∃ z, z = h7.size := ⟨_, rfl⟩
      rw [← g8] at A8 D8 st8
      have lt_b1_b8 : b1 < b8 := Nat.lt_of_lt_of_le G1.lt (Nat.le_of_eq g8.symm)
      have lt_b4_b8 : b4 < b8 := Nat.lt_of_lt_of_le G4.lt (Nat.le_of_eq g8.symm)
      have g_b8 : n0 ≤ b8 := Nat.le_trans (own_oldsz O) (Nat.le_of_eq g8.symm)
      have m_b8_8 : h0.size ≤ b8 := Nat.le_trans KM.1 (Nat.le_of_eq g8.symm)
      replace G1 := G1.ext E8
      replace V3 := V3.ext E8
      replace G4 := G4.ext E8
      replace V7 := V7.ext E8
      replace O := O.ext E8
      replace hk := Nat.le_trans hk E8.1
      replace KM := KM.ext E8
      have F8_coder : Fld Z h8 b8 "java/lang/String" "coder" "B" (.int (0 : Int32)) := D8 (Or.inr (hw _ (List.mem_of_getElem? (i := 27) rfl))) (ty := .byte) (by decide)
      have F8_value : Fld Z h8 b8 "java/lang/String" "value" "[B" .null := D8 (Or.inr (hw _ (List.mem_of_getElem? (i := 29) rfl))) (ty := (.array .byte)) (by decide)
      refine own_go (B := T8.setTop (mkF m 141 #[.val (.int p1), .val (.int p2), .val (.int p3), .val (.int p4), .val (.int p5), .val (.int bo), .val (.int bn), .val (.int be), .val (.ref b1), .val (.ref b4), .unset, .unset, .unset, .unset, .unset, .unset, .unset, .unset, .unset, .unset] [(.ref b8)])) st8 ?_
      refine own_go (B := T8.setTop (mkF m 144 #[.val (.int p1), .val (.int p2), .val (.int p3), .val (.int p4), .val (.int p5), .val (.int bo), .val (.int bn), .val (.int be), .val (.ref b1), .val (.ref b4), .unset, .unset, .unset, .unset, .unset, .unset, .unset, .unset, .unset, .unset] [(.ref b1), (.ref b8), (.ref b8)])) (fun t k => ?_) ?_
      · show Steps p.tables e below (T8.setTop (mkF m 141 #[.val (.int p1), .val (.int p2), .val (.int p3), .val (.int p4), .val (.int p5), .val (.int bo), .val (.int bn), .val (.int be), .val (.ref b1), .val (.ref b4), .unset, .unset, .unset, .unset, .unset, .unset, .unset, .unset, .unset, .unset] [(.ref b8)])) _
        refine XS.dup X8.here hx rfl (hb hby at_141) rfl rfl ?_
        show Steps p.tables e below (T8.setTop (mkF m 142 #[.val (.int p1), .val (.int p2), .val (.int p3), .val (.int p4), .val (.int p5), .val (.int bo), .val (.int bn), .val (.int be), .val (.ref b1), .val (.ref b4), .unset, .unset, .unset, .unset, .unset, .unset, .unset, .unset, .unset, .unset] [(.ref b8), (.ref b8)])) _
        refine XS.aload X8.here hx rfl (hb hby at_142) rfl rfl ?_
        show Steps p.tables e below (T8.setTop (mkF m 144 #[.val (.int p1), .val (.int p2), .val (.int p3), .val (.int p4), .val (.int p5), .val (.int bo), .val (.int bn), .val (.int be), .val (.ref b1), .val (.ref b4), .unset, .unset, .unset, .unset, .unset, .unset, .unset, .unset, .unset, .unset] [(.ref b1), (.ref b8), (.ref b8)])) _
        exact k
      have := bc0
      have := bc1
      have hws : ∀ d ∈ StrChars.Road.words, d.before a0 Z = true := fun d hd => hw d ((by decide +kernel : ∀ d ∈ StrChars.Road.words, d ∈ tables_1) d hd)
      -- pc 144: java/lang/String.<init>
      obtain ⟨_, _, ⟨T9, L9, k9, n9⟩, -, X9, ⟨Lc9, hQ9, l9, y9, z9⟩, st9⟩ := X8.specialBack hx (y := (⟨"java/lang/String", "<init>", "([C)V"⟩ : MethodName)) rfl hown (mvT hZ (hw _ (List.mem_of_getElem? (i := 4) rfl))) (mvT hZ (hw _ (List.mem_of_getElem? (i := 5) rfl))) (mvT hZ (hw _ (List.mem_of_getElem? (i := 6) rfl))) (by decide) (StrChars.Road.backV (W := 1) hZ hws (kI := 4) (hw _ (List.mem_of_getElem? (i := 2) rfl)) (cs := ([c0, c1] : List Int32)) (bs := ([c0, c1] : List Int32).map (fun c => c.toInt8.toInt32)) (n := 2) g_b8 (own_oldsz O) A8 F8_value F8_coder V3 (S_C.ext O.2) hcs rfl rfl (by decide) (by decide) (by intro c hc; simp only [List.mem_cons, List.not_mem_nil, or_false] at hc; rcases hc with rfl | rfl <;> assumption) rfl (by decide) (by decide)) (g := (mkF m 144 #[.val (.int p1), .val (.int p2), .val (.int p3), .val (.int p4), .val (.int p5), .val (.int bo), .val (.int bn), .val (.int be), .val (.ref b1), .val (.ref b4), .unset, .unset, .unset, .unset, .unset, .unset, .unset, .unset, .unset, .unset] [(.ref b1), (.ref b8), (.ref b8)])) rfl (by rw [hml]; rfl) (Steps.refl _) (a := b8) (argsL := [(.ref b1)]) (rest := [(.ref b8)]) (lenOf pd_4 rfl) rfl (by show 2 * 0 + _ ≤ _; exact Nat.le_of_eq rfl) (hb hby at_144) (fun _ hWm => ⟨rfl, e8, (by decide : 3 + 1 ≤ _), (by decide : 9 + 2 ≤ _)⟩)
      dsimp only [Pt.U, Pt.locs, Pt.cells, Pt.slots] at X9 l9 y9 z9 st9 hQ9
      subst l9 y9 z9
      obtain ⟨rfl, Nq9, Kq9, Gq9_0, Gq9_1, t9, kb9, u9, fq9, nq9, Gq9_2, Gq9_3⟩ := hQ9
      replace N := Fr.app N Nq9
      have lt_b1_t9 : b1 < t9 := Nat.lt_of_lt_of_le G1.lt fq9
      have lt_b4_t9 : b4 < t9 := Nat.lt_of_lt_of_le G4.lt fq9
      have lt_b8_t9 : b8 < t9 := Nat.lt_of_lt_of_le A8.lt fq9
      have g_t9 : n0 ≤ t9 := Nat.le_trans (own_oldsz O) fq9
      have m_t9_9 : h0.size ≤ t9 := Nat.le_trans KM.1 fq9
      replace G1 := G1.keep Kq9
      replace V3 := V3.keep Kq9 (ninS (Nat.ne_of_lt lt_b1_b8) nin0)
      replace G4 := G4.keep Kq9
      replace V7 := V7.keep Kq9 (ninS (Nat.ne_of_lt lt_b4_b8) nin0)
      replace A8 := A8.keep Kq9
      clear F8_coder
      clear F8_value
      replace O := O.keep Kq9 (allS g_b8 all0)
      replace hk := Nat.le_trans hk Kq9.1
      replace KM := KM.trans Kq9 (allS (Or.inr m_b8_8) all0)
      refine own_go (B := T9.setTop (mkF m 147 #[.val (.int p1), .val (.int p2), .val (.int p3), .val (.int p4), .val (.int p5), .val (.int bo), .val (.int bn), .val (.int be), .val (.ref b1), .val (.ref b4), .unset, .unset, .unset, .unset, .unset, .unset, .unset, .unset, .unset, .unset] [(.ref b8)])) (fun t k => st9.trans k) ?_
      refine own_go (B := T9.setTop (mkF m 149 #[.val (.int p1), .val (.int p2), .val (.int p3), .val (.int p4), .val (.int p5), .val (.int bo), .val (.int bn), .val (.int be), .val (.ref b1), .val (.ref b4), .val (.ref b8), .unset, .unset, .unset, .unset, .unset, .unset, .unset, .unset, .unset] [])) (fun t k => ?_) ?_
      · show Steps p.tables e below (T9.setTop (mkF m 147 #[.val (.int p1), .val (.int p2), .val (.int p3), .val (.int p4), .val (.int p5), .val (.int bo), .val (.int bn), .val (.int be), .val (.ref b1), .val (.ref b4), .unset, .unset, .unset, .unset, .unset, .unset, .unset, .unset, .unset, .unset] [(.ref b8)])) _
        refine XS.astore X9.here hx rfl (hb hby at_147) rfl rfl (l' := #[.val (.int p1), .val (.int p2), .val (.int p3), .val (.int p4), .val (.int p5), .val (.int bo), .val (.int bn), .val (.int be), .val (.ref b1), .val (.ref b4), .val (.ref b8), .unset, .unset, .unset, .unset, .unset, .unset, .unset, .unset, .unset]) rfl ?_
        show Steps p.tables e below (T9.setTop (mkF m 149 #[.val (.int p1), .val (.int p2), .val (.int p3), .val (.int p4), .val (.int p5), .val (.int bo), .val (.int bn), .val (.int be), .val (.ref b1), .val (.ref b4), .val (.ref b8), .unset, .unset, .unset, .unset, .unset, .unset, .unset, .unset, .unset] [])) _
        exact k
      clear V3 Gq9_1 Gq9_2 Gq9_3
      obtain ⟨T10, h10, X10, e10, E10, A10, D10, -, st10⟩ := newO X9 hx hZ hown (hw _ (List.mem_of_getElem? (i := 1) rfl)) (hw _ (List.mem_of_getElem? (i := 2) rfl)) (hw _ (List.mem_of_getElem? (i := 3) rfl)) rfl (g := (mkF m 149 #[.val (.int p1), .val (.int p2), .val (.int p3), .val (.int p4), .val (.int p5), .val (.int bo), .val (.int bn), .val (.int be), .val (.ref b1), .val (.ref b4), .val (.ref b8), .unset, .unset, .unset, .unset, .unset, .unset, .unset, .unset, .unset] [])) rfl (hb hby at_149) (by decide) (by decide)
      obtain ⟨b10, g10⟩ : ∃ z, z = T9.heap.size := ⟨_, rfl⟩
      rw [← g10] at A10 D10 st10
      have lt_b1_b10 : b1 < b10 := Nat.lt_of_lt_of_le G1.lt (Nat.le_of_eq g10.symm)
      have lt_b4_b10 : b4 < b10 := Nat.lt_of_lt_of_le G4.lt (Nat.le_of_eq g10.symm)
      have lt_b8_b10 : b8 < b10 := Nat.lt_of_lt_of_le Gq9_0.lt (Nat.le_of_eq g10.symm)
      have g_b10 : n0 ≤ b10 := Nat.le_trans (own_oldsz O) (Nat.le_of_eq g10.symm)
      have m_b10_10 : h0.size ≤ b10 := Nat.le_trans KM.1 (Nat.le_of_eq g10.symm)
      replace G1 := G1.ext E10
      replace G4 := G4.ext E10
      replace V7 := V7.ext E10
      replace Gq9_0 := Gq9_0.ext E10
      replace O := O.ext E10
      replace hk := Nat.le_trans hk E10.1
      replace KM := KM.ext E10
      have F10_coder : Fld Z h10 b10 "java/lang/String" "coder" "B" (.int (0 : Int32)) := D10 (Or.inr (hw _ (List.mem_of_getElem? (i := 27) rfl))) (ty := .byte) (by decide)
      have F10_value : Fld Z h10 b10 "java/lang/String" "value" "[B" .null := D10 (Or.inr (hw _ (List.mem_of_getElem? (i := 29) rfl))) (ty := (.array .byte)) (by decide)
      refine own_go (B := T10.setTop (mkF m 152 #[.val (.int p1), .val (.int p2), .val (.int p3), .val (.int p4), .val (.int p5), .val (.int bo), .val (.int bn), .val (.int be), .val (.ref b1), .val (.ref b4), .val (.ref b8), .unset, .unset, .unset, .unset, .unset, .unset, .unset, .unset, .unset] [(.ref b10)])) st10 ?_
      refine own_go (B := T10.setTop (mkF m 155 #[.val (.int p1), .val (.int p2), .val (.int p3), .val (.int p4), .val (.int p5), .val (.int bo), .val (.int bn), .val (.int be), .val (.ref b1), .val (.ref b4), .val (.ref b8), .unset, .unset, .unset, .unset, .unset, .unset, .unset, .unset, .unset] [(.ref b4), (.ref b10), (.ref b10)])) (fun t k => ?_) ?_
      · show Steps p.tables e below (T10.setTop (mkF m 152 #[.val (.int p1), .val (.int p2), .val (.int p3), .val (.int p4), .val (.int p5), .val (.int bo), .val (.int bn), .val (.int be), .val (.ref b1), .val (.ref b4), .val (.ref b8), .unset, .unset, .unset, .unset, .unset, .unset, .unset, .unset, .unset] [(.ref b10)])) _
        refine XS.dup X10.here hx rfl (hb hby at_152) rfl rfl ?_
        show Steps p.tables e below (T10.setTop (mkF m 153 #[.val (.int p1), .val (.int p2), .val (.int p3), .val (.int p4), .val (.int p5), .val (.int bo), .val (.int bn), .val (.int be), .val (.ref b1), .val (.ref b4), .val (.ref b8), .unset, .unset, .unset, .unset, .unset, .unset, .unset, .unset, .unset] [(.ref b10), (.ref b10)])) _
        refine XS.aload X10.here hx rfl (hb hby at_153) rfl rfl ?_
        show Steps p.tables e below (T10.setTop (mkF m 155 #[.val (.int p1), .val (.int p2), .val (.int p3), .val (.int p4), .val (.int p5), .val (.int bo), .val (.int bn), .val (.int be), .val (.ref b1), .val (.ref b4), .val (.ref b8), .unset, .unset, .unset, .unset, .unset, .unset, .unset, .unset, .unset] [(.ref b4), (.ref b10), (.ref b10)])) _
        exact k
      have := bc2
      have := bc3
      have := bc4
      have hws : ∀ d ∈ StrChars.Road.words, d.before a0 Z = true := fun d hd => hw d ((by decide +kernel : ∀ d ∈ StrChars.Road.words, d ∈ tables_1) d hd)
      -- pc 155: java/lang/String.<init>
      obtain ⟨_, _, ⟨T11, L11, k11, n11⟩, -, X11, ⟨Lc11, hQ11, l11, y11, z11⟩, st11⟩ := X10.specialBack hx (y := (⟨"java/lang/String", "<init>", "([C)V"⟩ : MethodName)) rfl hown (mvT hZ (hw _ (List.mem_of_getElem? (i := 4) rfl))) (mvT hZ (hw _ (List.mem_of_getElem? (i := 5) rfl))) (mvT hZ (hw _ (List.mem_of_getElem? (i := 6) rfl))) (by decide) (StrChars.Road.backV (W := 1) hZ hws (kI := 4) (hw _ (List.mem_of_getElem? (i := 2) rfl)) (cs := ([c2, c3, c4] : List Int32)) (bs := ([c2, c3, c4] : List Int32).map (fun c => c.toInt8.toInt32)) (n := 3) g_b10 (own_oldsz O) A10 F10_value F10_coder V7 (S_C.ext O.2) hcs rfl rfl (by decide) (by decide) (by intro c hc; simp only [List.mem_cons, List.not_mem_nil, or_false] at hc; rcases hc with rfl | rfl | rfl <;> assumption) rfl (by decide) (by decide)) (g := (mkF m 155 #[.val (.int p1), .val (.int p2), .val (.int p3), .val (.int p4), .val (.int p5), .val (.int bo), .val (.int bn), .val (.int be), .val (.ref b1), .val (.ref b4), .val (.ref b8), .unset, .unset, .unset, .unset, .unset, .unset, .unset, .unset, .unset] [(.ref b4), (.ref b10), (.ref b10)])) rfl (by rw [hml]; rfl) (Steps.refl _) (a := b10) (argsL := [(.ref b4)]) (rest := [(.ref b10)]) (lenOf pd_4 rfl) rfl (by show 2 * 0 + _ ≤ _; exact Nat.le_of_eq rfl) (hb hby at_155) (fun _ hWm => ⟨rfl, e10, (by decide : 5 + 1 ≤ _), (by decide : 15 + 3 ≤ _)⟩)
      dsimp only [Pt.U, Pt.locs, Pt.cells, Pt.slots] at X11 l11 y11 z11 st11 hQ11
      subst l11 y11 z11
      obtain ⟨rfl, Nq11, Kq11, Gq11_0, Gq11_1, t11, kb11, u11, fq11, nq11, Gq11_2, Gq11_3⟩ := hQ11
      replace N := Fr.app N Nq11
      have lt_b1_t11 : b1 < t11 := Nat.lt_of_lt_of_le G1.lt fq11
      have lt_b4_t11 : b4 < t11 := Nat.lt_of_lt_of_le G4.lt fq11
      have lt_b8_t11 : b8 < t11 := Nat.lt_of_lt_of_le Gq9_0.lt fq11
      have lt_b10_t11 : b10 < t11 := Nat.lt_of_lt_of_le A10.lt fq11
      have g_t11 : n0 ≤ t11 := Nat.le_trans (own_oldsz O) fq11
      have m_t11_11 : h0.size ≤ t11 := Nat.le_trans KM.1 fq11
      replace G1 := G1.keep Kq11
      replace G4 := G4.keep Kq11
      replace V7 := V7.keep Kq11 (ninS (Nat.ne_of_lt lt_b4_b10) nin0)
      replace Gq9_0 := Gq9_0.keep Kq11
      replace A10 := A10.keep Kq11
      clear F10_coder
      clear F10_value
      replace O := O.keep Kq11 (allS g_b10 all0)
      replace hk := Nat.le_trans hk Kq11.1
      replace KM := KM.trans Kq11 (allS (Or.inr m_b10_10) all0)
      refine own_go (B := T11.setTop (mkF m 158 #[.val (.int p1), .val (.int p2), .val (.int p3), .val (.int p4), .val (.int p5), .val (.int bo), .val (.int bn), .val (.int be), .val (.ref b1), .val (.ref b4), .val (.ref b8), .unset, .unset, .unset, .unset, .unset, .unset, .unset, .unset, .unset] [(.ref b10)])) (fun t k => st11.trans k) ?_
      refine own_go (B := T11.setTop (mkF m 160 #[.val (.int p1), .val (.int p2), .val (.int p3), .val (.int p4), .val (.int p5), .val (.int bo), .val (.int bn), .val (.int be), .val (.ref b1), .val (.ref b4), .val (.ref b8), .val (.ref b10), .unset, .unset, .unset, .unset, .unset, .unset, .unset, .unset] [])) (fun t k => ?_) ?_
      · show Steps p.tables e below (T11.setTop (mkF m 158 #[.val (.int p1), .val (.int p2), .val (.int p3), .val (.int p4), .val (.int p5), .val (.int bo), .val (.int bn), .val (.int be), .val (.ref b1), .val (.ref b4), .val (.ref b8), .unset, .unset, .unset, .unset, .unset, .unset, .unset, .unset, .unset] [(.ref b10)])) _
        refine XS.astore X11.here hx rfl (hb hby at_158) rfl rfl (l' := #[.val (.int p1), .val (.int p2), .val (.int p3), .val (.int p4), .val (.int p5), .val (.int bo), .val (.int bn), .val (.int be), .val (.ref b1), .val (.ref b4), .val (.ref b8), .val (.ref b10), .unset, .unset, .unset, .unset, .unset, .unset, .unset, .unset]) rfl ?_
        show Steps p.tables e below (T11.setTop (mkF m 160 #[.val (.int p1), .val (.int p2), .val (.int p3), .val (.int p4), .val (.int p5), .val (.int bo), .val (.int bn), .val (.int be), .val (.ref b1), .val (.ref b4), .val (.ref b8), .val (.ref b10), .unset, .unset, .unset, .unset, .unset, .unset, .unset, .unset] [])) _
        exact k
      clear V7 Gq11_1 Gq11_2 Gq11_3
      refine own_go (B := T11.setTop (mkF m 162 #[.val (.int p1), .val (.int p2), .val (.int p3), .val (.int p4), .val (.int p5), .val (.int bo), .val (.int bn), .val (.int be), .val (.ref b1), .val (.ref b4), .val (.ref b8), .val (.ref b10), .unset, .unset, .unset, .unset, .unset, .unset, .unset, .unset] [(.int bo)])) (fun t k => ?_) ?_
      · show Steps p.tables e below (T11.setTop (mkF m 160 #[.val (.int p1), .val (.int p2), .val (.int p3), .val (.int p4), .val (.int p5), .val (.int bo), .val (.int bn), .val (.int be), .val (.ref b1), .val (.ref b4), .val (.ref b8), .val (.ref b10), .unset, .unset, .unset, .unset, .unset, .unset, .unset, .unset] [])) _
        refine XS.iload X11.here hx rfl (hb hby at_160) rfl ?_
        show Steps p.tables e below (T11.setTop (mkF m 162 #[.val (.int p1), .val (.int p2), .val (.int p3), .val (.int p4), .val (.int p5), .val (.int bo), .val (.int bn), .val (.int be), .val (.ref b1), .val (.ref b4), .val (.ref b8), .val (.ref b10), .unset, .unset, .unset, .unset, .unset, .unset, .unset, .unset] [(.int bo)])) _
        exact k
      by_cases ko : bo = (0 : Int32)
      · refine own_go (B := T11.setTop (mkF m 182 #[.val (.int p1), .val (.int p2), .val (.int p3), .val (.int p4), .val (.int p5), .val (.int bo), .val (.int bn), .val (.int be), .val (.ref b1), .val (.ref b4), .val (.ref b8), .val (.ref b10), .val .null, .unset, .unset, .unset, .unset, .unset, .unset, .unset] [])) (fun t k => ?_) ?_
        · show Steps p.tables e below (T11.setTop (mkF m 162 #[.val (.int p1), .val (.int p2), .val (.int p3), .val (.int p4), .val (.int p5), .val (.int bo), .val (.int bn), .val (.int be), .val (.ref b1), .val (.ref b4), .val (.ref b8), .val (.ref b10), .unset, .unset, .unset, .unset, .unset, .unset, .unset, .unset] [(.int bo)])) _
          refine XS.ifYes X11.here hx rfl (pc0 := 162) (pc' := 179) rfl (hb hby at_162) rfl ((if0 _ _).trans (teq ko).1) (by decide) (by decide) ?_
          show Steps p.tables e below (T11.setTop (mkF m 179 #[.val (.int p1), .val (.int p2), .val (.int p3), .val (.int p4), .val (.int p5), .val (.int bo), .val (.int bn), .val (.int be), .val (.ref b1), .val (.ref b4), .val (.ref b8), .val (.ref b10), .unset, .unset, .unset, .unset, .unset, .unset, .unset, .unset] [])) _
          refine XS.aconstNull X11.here hx rfl (hb hby at_179) ?_
          show Steps p.tables e below (T11.setTop (mkF m 180 #[.val (.int p1), .val (.int p2), .val (.int p3), .val (.int p4), .val (.int p5), .val (.int bo), .val (.int bn), .val (.int be), .val (.ref b1), .val (.ref b4), .val (.ref b8), .val (.ref b10), .unset, .unset, .unset, .unset, .unset, .unset, .unset, .unset] [.null])) _
          refine XS.astore X11.here hx rfl (hb hby at_180) rfl rfl (l' := #[.val (.int p1), .val (.int p2), .val (.int p3), .val (.int p4), .val (.int p5), .val (.int bo), .val (.int bn), .val (.int be), .val (.ref b1), .val (.ref b4), .val (.ref b8), .val (.ref b10), .val .null, .unset, .unset, .unset, .unset, .unset, .unset, .unset]) rfl ?_
          show Steps p.tables e below (T11.setTop (mkF m 182 #[.val (.int p1), .val (.int p2), .val (.int p3), .val (.int p4), .val (.int p5), .val (.int bo), .val (.int bn), .val (.int be), .val (.ref b1), .val (.ref b4), .val (.ref b8), .val (.ref b10), .val .null, .unset, .unset, .unset, .unset, .unset, .unset, .unset] [])) _
          exact k
        obtain ⟨T12, h12, X12, e12, E12, A12, D12, -, st12⟩ := newO X11 hx hZ hown (hw _ (List.mem_of_getElem? (i := 30) rfl)) (hw _ (List.mem_of_getElem? (i := 31) rfl)) (hw _ (List.mem_of_getElem? (i := 32) rfl)) rfl (g := (mkF m 182 #[.val (.int p1), .val (.int p2), .val (.int p3), .val (.int p4), .val (.int p5), .val (.int bo), .val (.int bn), .val (.int be), .val (.ref b1), .val (.ref b4), .val (.ref b8), .val (.ref b10), .val .null, .unset, .unset, .unset, .unset, .unset, .unset, .unset] [])) rfl (hb hby at_182) (by decide) (by decide)
        obtain ⟨b12, g12⟩ : ∃ z, z = T11.heap.size := ⟨_, rfl⟩
        rw [← g12] at A12 D12 st12
        have lt_b1_b12 : b1 < b12 := Nat.lt_of_lt_of_le G1.lt (Nat.le_of_eq g12.symm)
        have lt_b4_b12 : b4 < b12 := Nat.lt_of_lt_of_le G4.lt (Nat.le_of_eq g12.symm)
        have lt_b8_b12 : b8 < b12 := Nat.lt_of_lt_of_le Gq9_0.lt (Nat.le_of_eq g12.symm)
        have lt_b10_b12 : b10 < b12 := Nat.lt_of_lt_of_le Gq11_0.lt (Nat.le_of_eq g12.symm)
        have g_b12 : n0 ≤ b12 := Nat.le_trans (own_oldsz O) (Nat.le_of_eq g12.symm)
        have m_b12_12 : h0.size ≤ b12 := Nat.le_trans KM.1 (Nat.le_of_eq g12.symm)
        replace G1 := G1.ext E12
        replace G4 := G4.ext E12
        replace Gq9_0 := Gq9_0.ext E12
        replace Gq11_0 := Gq11_0.ext E12
        replace O := O.ext E12
        replace hk := Nat.le_trans hk E12.1
        replace KM := KM.ext E12
        have F12_text : Fld Z h12 b12 "com/example/fieldloom/fieldloom/mapping/Value" "text" "Ljava/lang/String;" .null := D12 (Or.inr (hw _ (List.mem_of_getElem? (i := 43) rfl))) (ty := (.object "java/lang/String")) (by decide)
        have F12_occurrence : Fld Z h12 b12 "com/example/fieldloom/fieldloom/mapping/Value" "occurrence" "Lcom/example/fieldloom/fieldloom/mapping/FieldOccurrence;" .null := D12 (Or.inr (hw _ (List.mem_of_getElem? (i := 45) rfl))) (ty := (.object "com/example/fieldloom/fieldloom/mapping/FieldOccurrence")) (by decide)
        have F12_position : Fld Z h12 b12 "com/example/fieldloom/fieldloom/mapping/Value" "position" "I" (.int (0 : Int32)) := D12 (Or.inr (hw _ (List.mem_of_getElem? (i := 47) rfl))) (ty := .int) (by decide)
        refine own_go (B := T12.setTop (mkF m 185 #[.val (.int p1), .val (.int p2), .val (.int p3), .val (.int p4), .val (.int p5), .val (.int bo), .val (.int bn), .val (.int be), .val (.ref b1), .val (.ref b4), .val (.ref b8), .val (.ref b10), .val .null, .unset, .unset, .unset, .unset, .unset, .unset, .unset] [(.ref b12)])) st12 ?_
        refine own_go (B := T12.setTop (mkF m 191 #[.val (.int p1), .val (.int p2), .val (.int p3), .val (.int p4), .val (.int p5), .val (.int bo), .val (.int bn), .val (.int be), .val (.ref b1), .val (.ref b4), .val (.ref b8), .val (.ref b10), .val .null, .unset, .unset, .unset, .unset, .unset, .unset, .unset] [(.int p3), .null, (.ref b10), (.ref b12), (.ref b12)])) (fun t k => ?_) ?_
        · show Steps p.tables e below (T12.setTop (mkF m 185 #[.val (.int p1), .val (.int p2), .val (.int p3), .val (.int p4), .val (.int p5), .val (.int bo), .val (.int bn), .val (.int be), .val (.ref b1), .val (.ref b4), .val (.ref b8), .val (.ref b10), .val .null, .unset, .unset, .unset, .unset, .unset, .unset, .unset] [(.ref b12)])) _
          refine XS.dup X12.here hx rfl (hb hby at_185) rfl rfl ?_
          show Steps p.tables e below (T12.setTop (mkF m 186 #[.val (.int p1), .val (.int p2), .val (.int p3), .val (.int p4), .val (.int p5), .val (.int bo), .val (.int bn), .val (.int be), .val (.ref b1), .val (.ref b4), .val (.ref b8), .val (.ref b10), .val .null, .unset, .unset, .unset, .unset, .unset, .unset, .unset] [(.ref b12), (.ref b12)])) _
          refine XS.aload X12.here hx rfl (hb hby at_186) rfl rfl ?_
          show Steps p.tables e below (T12.setTop (mkF m 188 #[.val (.int p1), .val (.int p2), .val (.int p3), .val (.int p4), .val (.int p5), .val (.int bo), .val (.int bn), .val (.int be), .val (.ref b1), .val (.ref b4), .val (.ref b8), .val (.ref b10), .val .null, .unset, .unset, .unset, .unset, .unset, .unset, .unset] [(.ref b10), (.ref b12), (.ref b12)])) _
          refine XS.aload X12.here hx rfl (hb hby at_188) rfl rfl ?_
          show Steps p.tables e below (T12.setTop (mkF m 190 #[.val (.int p1), .val (.int p2), .val (.int p3), .val (.int p4), .val (.int p5), .val (.int bo), .val (.int bn), .val (.int be), .val (.ref b1), .val (.ref b4), .val (.ref b8), .val (.ref b10), .val .null, .unset, .unset, .unset, .unset, .unset, .unset, .unset] [.null, (.ref b10), (.ref b12), (.ref b12)])) _
          refine XS.iloadN X12.here hx rfl (hb hby at_190) rfl ?_
          show Steps p.tables e below (T12.setTop (mkF m 191 #[.val (.int p1), .val (.int p2), .val (.int p3), .val (.int p4), .val (.int p5), .val (.int bo), .val (.int bn), .val (.int be), .val (.ref b1), .val (.ref b4), .val (.ref b8), .val (.ref b10), .val .null, .unset, .unset, .unset, .unset, .unset, .unset, .unset] [(.int p3), .null, (.ref b10), (.ref b12), (.ref b12)])) _
          exact k
        -- pc 191: com/example/fieldloom/fieldloom/mapping/Value.<init>
        obtain ⟨_, _, ⟨T13, L13, k13, n13⟩, -, X13, ⟨Lc13, hQ13, l13, y13, z13⟩, st13⟩ := X12.specialBack hx (y := (⟨"com/example/fieldloom/fieldloom/mapping/Value", "<init>", "(Ljava/lang/String;Lcom/example/fieldloom/fieldloom/mapping/FieldOccurrence;I)V"⟩ : MethodName)) rfl hown (mvT hZ (hw _ (List.mem_of_getElem? (i := 33) rfl))) (mvT hZ (hw _ (List.mem_of_getElem? (i := 34) rfl))) (mvT hZ (hw _ (List.mem_of_getElem? (i := 35) rfl))) (by decide) (backOf (W := 1) (rmV3 l Z a0 hw [] b12 (.ref b10) (.null) p3 h12 n0 O A12 F12_text F12_occurrence F12_position g_b12 rfl rfl) hZ (hw _ (List.mem_of_getElem? (i := 35) rfl)) (hw _ (List.mem_of_getElem? (i := 32) rfl)) (by decide) (by decide)) (g := (mkF m 191 #[.val (.int p1), .val (.int p2), .val (.int p3), .val (.int p4), .val (.int p5), .val (.int bo), .val (.int bn), .val (.int be), .val (.ref b1), .val (.ref b4), .val (.ref b8), .val (.ref b10), .val .null, .unset, .unset, .unset, .unset, .unset, .unset, .unset] [(.int p3), .null, (.ref b10), (.ref b12), (.ref b12)])) rfl (by rw [hml]; rfl) (Steps.refl _) (a := b12) (argsL := [(.ref b10), .null, (.int p3)]) (rest := [(.ref b12)]) (lenOf pd_2 rfl) rfl (by show 2 * 0 + _ ≤ _; exact Nat.le_of_eq rfl) (hb hby at_191) (fun _ hWm => ⟨rfl, e12, (by decide : 7 + 0 ≤ _), (by decide : 21 + 0 ≤ _)⟩)
        dsimp only [Pt.U, Pt.locs, Pt.cells, Pt.slots] at X13 l13 y13 z13 st13 hQ13
        subst l13 y13 z13
        obtain ⟨rfl, Nq13, Kq13, Gq13_0, Gq13_1, Gq13_2⟩ := hQ13
        replace N := Fr.app N Nq13
        replace G1 := G1.keep Kq13
        replace G4 := G4.keep Kq13
        replace Gq9_0 := Gq9_0.keep Kq13
        replace Gq11_0 := Gq11_0.keep Kq13
        replace A12 := A12.keep Kq13
        clear F12_text
        clear F12_occurrence
        clear F12_position
        replace O := O.keep Kq13 (allS g_b12 all0)
        replace hk := Nat.le_trans hk Kq13.1
        replace KM := KM.trans Kq13 (allS (Or.inr m_b12_12) all0)
        refine own_go (B := T13.setTop (mkF m 194 #[.val (.int p1), .val (.int p2), .val (.int p3), .val (.int p4), .val (.int p5), .val (.int bo), .val (.int bn), .val (.int be), .val (.ref b1), .val (.ref b4), .val (.ref b8), .val (.ref b10), .val .null, .unset, .unset, .unset, .unset, .unset, .unset, .unset] [(.ref b12)])) (fun t k => st13.trans k) ?_
        refine own_go (B := T13.setTop (mkF m 200 #[.val (.int p1), .val (.int p2), .val (.int p3), .val (.int p4), .val (.int p5), .val (.int bo), .val (.int bn), .val (.int be), .val (.ref b1), .val (.ref b4), .val (.ref b8), .val (.ref b10), .val .null, .val (.ref b12), .unset, .unset, .unset, .unset, .unset, .unset] [(.ref b8), (.ref b12)])) (fun t k => ?_) ?_
        · show Steps p.tables e below (T13.setTop (mkF m 194 #[.val (.int p1), .val (.int p2), .val (.int p3), .val (.int p4), .val (.int p5), .val (.int bo), .val (.int bn), .val (.int be), .val (.ref b1), .val (.ref b4), .val (.ref b8), .val (.ref b10), .val .null, .unset, .unset, .unset, .unset, .unset, .unset, .unset] [(.ref b12)])) _
          refine XS.astore X13.here hx rfl (hb hby at_194) rfl rfl (l' := #[.val (.int p1), .val (.int p2), .val (.int p3), .val (.int p4), .val (.int p5), .val (.int bo), .val (.int bn), .val (.int be), .val (.ref b1), .val (.ref b4), .val (.ref b8), .val (.ref b10), .val .null, .val (.ref b12), .unset, .unset, .unset, .unset, .unset, .unset]) rfl ?_
          show Steps p.tables e below (T13.setTop (mkF m 196 #[.val (.int p1), .val (.int p2), .val (.int p3), .val (.int p4), .val (.int p5), .val (.int bo), .val (.int bn), .val (.int be), .val (.ref b1), .val (.ref b4), .val (.ref b8), .val (.ref b10), .val .null, .val (.ref b12), .unset, .unset, .unset, .unset, .unset, .unset] [])) _
          refine XS.aload X13.here hx rfl (hb hby at_196) rfl rfl ?_
          show Steps p.tables e below (T13.setTop (mkF m 198 #[.val (.int p1), .val (.int p2), .val (.int p3), .val (.int p4), .val (.int p5), .val (.int bo), .val (.int bn), .val (.int be), .val (.ref b1), .val (.ref b4), .val (.ref b8), .val (.ref b10), .val .null, .val (.ref b12), .unset, .unset, .unset, .unset, .unset, .unset] [(.ref b12)])) _
          refine XS.aload X13.here hx rfl (hb hby at_198) rfl rfl ?_
          show Steps p.tables e below (T13.setTop (mkF m 200 #[.val (.int p1), .val (.int p2), .val (.int p3), .val (.int p4), .val (.int p5), .val (.int bo), .val (.int bn), .val (.int be), .val (.ref b1), .val (.ref b4), .val (.ref b8), .val (.ref b10), .val .null, .val (.ref b12), .unset, .unset, .unset, .unset, .unset, .unset] [(.ref b8), (.ref b12)])) _
          exact k
        -- pc 200: com/example/fieldloom/fieldloom/mapping/Value.withText
        obtain ⟨cq14, kq14, q14a, q14b, q14c⟩ := isOf hZ rfl A12
        obtain ⟨_, _, ⟨T14, L14, k14, n14⟩, -, X14, ⟨Lc14, hQ14, l14, y14, z14⟩, st14⟩ := X13.virtualBack hx (y := (⟨"com/example/fieldloom/fieldloom/mapping/Value", "withText", "(Ljava/lang/String;)Lcom/example/fieldloom/fieldloom/mapping/Value;"⟩ : MethodName)) (z := (⟨"com/example/fieldloom/fieldloom/mapping/Value", "withText", "(Ljava/lang/String;)Lcom/example/fieldloom/fieldloom/mapping/Value;"⟩ : MethodName)) hown (mvT hZ (hw _ (List.mem_of_getElem? (i := 48) rfl))) (mvT hZ (hw _ (List.mem_of_getElem? (i := 49) rfl))) (notFace_of_selects (args := #[]) (mvT hZ (hw _ (List.mem_of_getElem? (i := 51) rfl)))) (mvT hZ (hw _ (List.mem_of_getElem? (i := 51) rfl))) (mvT hZ (hw _ (List.mem_of_getElem? (i := 50) rfl))) (by decide) (backOf (W := 0) (rmWT l Z a0 hw [] b12 (.ref b8) (.null) T13.heap n0 O Gq13_1 rfl rfl) hZ (hw _ (List.mem_of_getElem? (i := 52) rfl)) (hw _ (List.mem_of_getElem? (i := 32) rfl)) (by decide) (by decide)) q14a q14c (g := (mkF m 200 #[.val (.int p1), .val (.int p2), .val (.int p3), .val (.int p4), .val (.int p5), .val (.int bo), .val (.int bn), .val (.int be), .val (.ref b1), .val (.ref b4), .val (.ref b8), .val (.ref b10), .val .null, .val (.ref b12), .unset, .unset, .unset, .unset, .unset, .unset] [(.ref b8), (.ref b12)])) rfl (by rw [hml]; rfl) (Steps.refl _) (argsL := [(.ref b8)]) (rest := []) (lenOf pd_5 rfl) rfl (by show 2 * 0 + _ ≤ _; exact Nat.le_of_eq rfl) (hb hby at_200) (fun _ hWm => ⟨rfl, rfl, (by decide : 7 + 1 ≤ _), (by decide : 21 + 3 ≤ _)⟩)
        dsimp only [Pt.U, Pt.locs, Pt.cells, Pt.slots] at X14 l14 y14 z14 st14 hQ14
        subst l14 y14 z14
        obtain ⟨r14, rfl, Nq14, Kq14, fq14_r, Gq14_0, Gq14_1, Gq14_2, Gq14_3⟩ := hQ14
        replace N := Fr.app N Nq14
        have lt_b1_r14 : b1 < r14 := Nat.lt_of_lt_of_le G1.lt fq14_r
        have lt_b4_r14 : b4 < r14 := Nat.lt_of_lt_of_le G4.lt fq14_r
        have lt_b8_r14 : b8 < r14 := Nat.lt_of_lt_of_le Gq9_0.lt fq14_r
        have lt_b10_r14 : b10 < r14 := Nat.lt_of_lt_of_le Gq11_0.lt fq14_r
        have lt_b12_r14 : b12 < r14 := Nat.lt_of_lt_of_le A12.lt fq14_r
        have g_r14 : n0 ≤ r14 := Nat.le_trans (own_oldsz O) fq14_r
        have m_r14_14 : h0.size ≤ r14 := Nat.le_trans KM.1 fq14_r
        replace G1 := G1.keep Kq14
        replace G4 := G4.keep Kq14
        replace Gq9_0 := Gq9_0.keep Kq14
        replace Gq11_0 := Gq11_0.keep Kq14
        replace A12 := A12.keep Kq14
        replace Gq13_0 := Gq13_0.keep Kq14 nin0
        replace Gq13_1 := Gq13_1.keep Kq14 nin0
        replace Gq13_2 := Gq13_2.keep Kq14 nin0
        replace O := O.keep Kq14 all0
        replace hk := Nat.le_trans hk Kq14.1
        replace KM := KM.trans Kq14 all0
        refine own_go (B := T14.setTop (mkF m 203 #[.val (.int p1), .val (.int p2), .val (.int p3), .val (.int p4), .val (.int p5), .val (.int bo), .val (.int bn), .val (.int be), .val (.ref b1), .val (.ref b4), .val (.ref b8), .val (.ref b10), .val .null, .val (.ref b12), .unset, .unset, .unset, .unset, .unset, .unset] [(.ref r14)])) (fun t k => st14.trans k) ?_
        refine own_go (B := T14.setTop (mkF m 207 #[.val (.int p1), .val (.int p2), .val (.int p3), .val (.int p4), .val (.int p5), .val (.int bo), .val (.int bn), .val (.int be), .val (.ref b1), .val (.ref b4), .val (.ref b8), .val (.ref b10), .val .null, .val (.ref b12), .val (.ref r14), .unset, .unset, .unset, .unset, .unset] [(.ref r14)])) (fun t k => ?_) ?_
        · show Steps p.tables e below (T14.setTop (mkF m 203 #[.val (.int p1), .val (.int p2), .val (.int p3), .val (.int p4), .val (.int p5), .val (.int bo), .val (.int bn), .val (.int be), .val (.ref b1), .val (.ref b4), .val (.ref b8), .val (.ref b10), .val .null, .val (.ref b12), .unset, .unset, .unset, .unset, .unset, .unset] [(.ref r14)])) _
          refine XS.astore X14.here hx rfl (hb hby at_203) rfl rfl (l' := #[.val (.int p1), .val (.int p2), .val (.int p3), .val (.int p4), .val (.int p5), .val (.int bo), .val (.int bn), .val (.int be), .val (.ref b1), .val (.ref b4), .val (.ref b8), .val (.ref b10), .val .null, .val (.ref b12), .val (.ref r14), .unset, .unset, .unset, .unset, .unset]) rfl ?_
          show Steps p.tables e below (T14.setTop (mkF m 205 #[.val (.int p1), .val (.int p2), .val (.int p3), .val (.int p4), .val (.int p5), .val (.int bo), .val (.int bn), .val (.int be), .val (.ref b1), .val (.ref b4), .val (.ref b8), .val (.ref b10), .val .null, .val (.ref b12), .val (.ref r14), .unset, .unset, .unset, .unset, .unset] [])) _
          refine XS.aload X14.here hx rfl (hb hby at_205) rfl rfl ?_
          show Steps p.tables e below (T14.setTop (mkF m 207 #[.val (.int p1), .val (.int p2), .val (.int p3), .val (.int p4), .val (.int p5), .val (.int bo), .val (.int bn), .val (.int be), .val (.ref b1), .val (.ref b4), .val (.ref b8), .val (.ref b10), .val .null, .val (.ref b12), .val (.ref r14), .unset, .unset, .unset, .unset, .unset] [(.ref r14)])) _
          exact k
        -- pc 207: com/example/fieldloom/fieldloom/mapping/Value.text
        obtain ⟨cq15, kq15, q15a, q15b, q15c⟩ := isOf hZ rfl Gq14_0
        obtain ⟨_, _, ⟨T15, L15, k15, n15⟩, -, X15, ⟨Lc15, hQ15, l15, y15, z15⟩, st15⟩ := X14.virtualBack hx (y := (⟨"com/example/fieldloom/fieldloom/mapping/Value", "text", "()Ljava/lang/String;"⟩ : MethodName)) (z := (⟨"com/example/fieldloom/fieldloom/mapping/Value", "text", "()Ljava/lang/String;"⟩ : MethodName)) hown (mvT hZ (hw _ (List.mem_of_getElem? (i := 58) rfl))) (mvT hZ (hw _ (List.mem_of_getElem? (i := 59) rfl))) (notFace_of_selects (args := #[]) (mvT hZ (hw _ (List.mem_of_getElem? (i := 61) rfl)))) (mvT hZ (hw _ (List.mem_of_getElem? (i := 61) rfl))) (mvT hZ (hw _ (List.mem_of_getElem? (i := 60) rfl))) (by decide) (backOf (W := 0) (rmGt l Z a0 hw [] r14 (.ref b8) T14.heap n0 O Gq14_1 rfl) hZ (hw _ (List.mem_of_getElem? (i := 62) rfl)) (hw _ (List.mem_of_getElem? (i := 32) rfl)) (by decide) (by decide)) q15a q15c (g := (mkF m 207 #[.val (.int p1), .val (.int p2), .val (.int p3), .val (.int p4), .val (.int p5), .val (.int bo), .val (.int bn), .val (.int be), .val (.ref b1), .val (.ref b4), .val (.ref b8), .val (.ref b10), .val .null, .val (.ref b12), .val (.ref r14), .unset, .unset, .unset, .unset, .unset] [(.ref r14)])) rfl (by rw [hml]; rfl) (Steps.refl _) (argsL := []) (rest := []) (lenOf pd_6 rfl) rfl (by show 2 * 0 + _ ≤ _; exact Nat.le_of_eq rfl) (hb hby at_207) (fun _ hWm => ⟨rfl, rfl, (by decide : 8 + 0 ≤ _), (by decide : 24 + 0 ≤ _)⟩)
        dsimp only [Pt.U, Pt.locs, Pt.cells, Pt.slots] at X15 l15 y15 z15 st15 hQ15
        subst l15 y15 z15
        obtain ⟨rfl, Nq15, Kq15⟩ := hQ15
        replace N := Fr.app N Nq15
        refine own_go (B := T15.setTop (mkF m 210 #[.val (.int p1), .val (.int p2), .val (.int p3), .val (.int p4), .val (.int p5), .val (.int bo), .val (.int bn), .val (.int be), .val (.ref b1), .val (.ref b4), .val (.ref b8), .val (.ref b10), .val .null, .val (.ref b12), .val (.ref r14), .unset, .unset, .unset, .unset, .unset] [(.ref b8)])) (fun t k => st15.trans k) ?_
        refine own_go (B := T15.setTop (mkF m 239 #[.val (.int p1), .val (.int p2), .val (.int p3), .val (.int p4), .val (.int p5), .val (.int bo), .val (.int bn), .val (.int be), .val (.ref b1), .val (.ref b4), .val (.ref b8), .val (.ref b10), .val .null, .val (.ref b12), .val (.ref r14), .val (.ref b8), .unset, .unset, .unset, .unset] [(.ref b8), (.ref b8)])) (fun t k => ?_) ?_
        · show Steps p.tables e below (T15.setTop (mkF m 210 #[.val (.int p1), .val (.int p2), .val (.int p3), .val (.int p4), .val (.int p5), .val (.int bo), .val (.int bn), .val (.int be), .val (.ref b1), .val (.ref b4), .val (.ref b8), .val (.ref b10), .val .null, .val (.ref b12), .val (.ref r14), .unset, .unset, .unset, .unset, .unset] [(.ref b8)])) _
          refine XS.astore X15.here hx rfl (hb hby at_210) rfl rfl (l' := #[.val (.int p1), .val (.int p2), .val (.int p3), .val (.int p4), .val (.int p5), .val (.int bo), .val (.int bn), .val (.int be), .val (.ref b1), .val (.ref b4), .val (.ref b8), .val (.ref b10), .val .null, .val (.ref b12), .val (.ref r14), .val (.ref b8), .unset, .unset, .unset, .unset]) rfl ?_
          show Steps p.tables e below (T15.setTop (mkF m 212 #[.val (.int p1), .val (.int p2), .val (.int p3), .val (.int p4), .val (.int p5), .val (.int bo), .val (.int bn), .val (.int be), .val (.ref b1), .val (.ref b4), .val (.ref b8), .val (.ref b10), .val .null, .val (.ref b12), .val (.ref r14), .val (.ref b8), .unset, .unset, .unset, .unset] [])) _
          refine XS.aload X15.here hx rfl (hb hby at_212) rfl rfl ?_
          show Steps p.tables e below (T15.setTop (mkF m 214 #[.val (.int p1), .val (.int p2), .val (.int p3), .val (.int p4), .val (.int p5), .val (.int bo), .val (.int bn), .val (.int be), .val (.ref b1), .val (.ref b4), .val (.ref b8), .val (.ref b10), .val .null, .val (.ref b12), .val (.ref r14), .val (.ref b8), .unset, .unset, .unset, .unset] [(.ref b8)])) _
          refine XT.ifnonnullYes X15.here hx rfl (pc0 := 214) (pc' := 230) rfl (hb hby at_214) rfl (by decide) (by decide) ?_
          show Steps p.tables e below (T15.setTop (mkF m 230 #[.val (.int p1), .val (.int p2), .val (.int p3), .val (.int p4), .val (.int p5), .val (.int bo), .val (.int bn), .val (.int be), .val (.ref b1), .val (.ref b4), .val (.ref b8), .val (.ref b10), .val .null, .val (.ref b12), .val (.ref r14), .val (.ref b8), .unset, .unset, .unset, .unset] [])) _
          refine XS.aload X15.here hx rfl (hb hby at_230) rfl rfl ?_
          show Steps p.tables e below (T15.setTop (mkF m 232 #[.val (.int p1), .val (.int p2), .val (.int p3), .val (.int p4), .val (.int p5), .val (.int bo), .val (.int bn), .val (.int be), .val (.ref b1), .val (.ref b4), .val (.ref b8), .val (.ref b10), .val .null, .val (.ref b12), .val (.ref r14), .val (.ref b8), .unset, .unset, .unset, .unset] [(.ref b8)])) _
          refine XS.ifnullNo X15.here hx rfl (hb hby at_232) rfl ?_
          show Steps p.tables e below (T15.setTop (mkF m 235 #[.val (.int p1), .val (.int p2), .val (.int p3), .val (.int p4), .val (.int p5), .val (.int bo), .val (.int bn), .val (.int be), .val (.ref b1), .val (.ref b4), .val (.ref b8), .val (.ref b10), .val .null, .val (.ref b12), .val (.ref r14), .val (.ref b8), .unset, .unset, .unset, .unset] [])) _
          refine XS.aload X15.here hx rfl (hb hby at_235) rfl rfl ?_
          show Steps p.tables e below (T15.setTop (mkF m 237 #[.val (.int p1), .val (.int p2), .val (.int p3), .val (.int p4), .val (.int p5), .val (.int bo), .val (.int bn), .val (.int be), .val (.ref b1), .val (.ref b4), .val (.ref b8), .val (.ref b10), .val .null, .val (.ref b12), .val (.ref r14), .val (.ref b8), .unset, .unset, .unset, .unset] [(.ref b8)])) _
          refine XS.aload X15.here hx rfl (hb hby at_237) rfl rfl ?_
          show Steps p.tables e below (T15.setTop (mkF m 239 #[.val (.int p1), .val (.int p2), .val (.int p3), .val (.int p4), .val (.int p5), .val (.int bo), .val (.int bn), .val (.int be), .val (.ref b1), .val (.ref b4), .val (.ref b8), .val (.ref b10), .val .null, .val (.ref b12), .val (.ref r14), .val (.ref b8), .unset, .unset, .unset, .unset] [(.ref b8), (.ref b8)])) _
          exact k
        -- pc 239: java/lang/String.equals
        obtain ⟨cq16, kq16, q16a, q16b, q16c⟩ := isOf hZ Kq15 Gq9_0
        obtain ⟨_, _, ⟨T16, L16, k16, n16⟩, -, X16, ⟨Lc16, hQ16, l16, y16, z16⟩, st16⟩ := X15.virtualBack hx (y := (⟨"java/lang/String", "equals", "(Ljava/lang/Object;)Z"⟩ : MethodName)) (z := (⟨"java/lang/String", "equals", "(Ljava/lang/Object;)Z"⟩ : MethodName)) hown (mvT hZ (hw _ (List.mem_of_getElem? (i := 63) rfl))) (mvT hZ (hw _ (List.mem_of_getElem? (i := 64) rfl))) (notFace_of_selects (args := #[]) (mvT hZ (hw _ (List.mem_of_getElem? (i := 66) rfl)))) (mvT hZ (hw _ (List.mem_of_getElem? (i := 66) rfl))) (mvT hZ (hw _ (List.mem_of_getElem? (i := 65) rfl))) (by decide) (backOf (W := 0) (rmEqS l Z a0 hw [] b8 T14.heap n0 O ) hZ (hw _ (List.mem_of_getElem? (i := 67) rfl)) (hw _ (List.mem_of_getElem? (i := 3) rfl)) (by decide) (by decide)) q16a q16c (g := (mkF m 239 #[.val (.int p1), .val (.int p2), .val (.int p3), .val (.int p4), .val (.int p5), .val (.int bo), .val (.int bn), .val (.int be), .val (.ref b1), .val (.ref b4), .val (.ref b8), .val (.ref b10), .val .null, .val (.ref b12), .val (.ref r14), .val (.ref b8), .unset, .unset, .unset, .unset] [(.ref b8), (.ref b8)])) rfl (by rw [hml]; rfl) (Steps.refl _) (argsL := [(.ref b8)]) (rest := []) (lenOf pd_7 rfl) rfl (by show 2 * 0 + _ ≤ _; exact Nat.le_of_eq rfl) (hb hby at_239) (fun _ hWm => ⟨rfl, Kq15, (by decide : 8 + 0 ≤ _), (by decide : 24 + 0 ≤ _)⟩)
        dsimp only [Pt.U, Pt.locs, Pt.cells, Pt.slots] at X16 l16 y16 z16 st16 hQ16
        subst l16 y16 z16
        obtain ⟨rfl, Nq16, Kq16⟩ := hQ16
        replace N := Fr.app N Nq16
        refine own_go (B := T16.setTop (mkF m 242 #[.val (.int p1), .val (.int p2), .val (.int p3), .val (.int p4), .val (.int p5), .val (.int bo), .val (.int bn), .val (.int be), .val (.ref b1), .val (.ref b4), .val (.ref b8), .val (.ref b10), .val .null, .val (.ref b12), .val (.ref r14), .val (.ref b8), .unset, .unset, .unset, .unset] [(.int (1 : Int32))])) (fun t k => st16.trans k) ?_
        refine own_go (B := T16.setTop (mkF m 254 #[.val (.int p1), .val (.int p2), .val (.int p3), .val (.int p4), .val (.int p5), .val (.int bo), .val (.int bn), .val (.int be), .val (.ref b1), .val (.ref b4), .val (.ref b8), .val (.ref b10), .val .null, .val (.ref b12), .val (.ref r14), .val (.ref b8), .val (.int (1 : Int32)), .unset, .unset, .unset] [(.ref r14)])) (fun t k => ?_) ?_
        · show Steps p.tables e below (T16.setTop (mkF m 242 #[.val (.int p1), .val (.int p2), .val (.int p3), .val (.int p4), .val (.int p5), .val (.int bo), .val (.int bn), .val (.int be), .val (.ref b1), .val (.ref b4), .val (.ref b8), .val (.ref b10), .val .null, .val (.ref b12), .val (.ref r14), .val (.ref b8), .unset, .unset, .unset, .unset] [(.int (1 : Int32))])) _
          refine XS.ifNo X16.here hx rfl (hb hby at_242) rfl ((if0 _ _).trans (feq (by decide)).1) ?_
          show Steps p.tables e below (T16.setTop (mkF m 245 #[.val (.int p1), .val (.int p2), .val (.int p3), .val (.int p4), .val (.int p5), .val (.int bo), .val (.int bn), .val (.int be), .val (.ref b1), .val (.ref b4), .val (.ref b8), .val (.ref b10), .val .null, .val (.ref b12), .val (.ref r14), .val (.ref b8), .unset, .unset, .unset, .unset] [])) _
          refine XS.iconst X16.here hx rfl (hb hby at_245) ?_
          show Steps p.tables e below (T16.setTop (mkF m 246 #[.val (.int p1), .val (.int p2), .val (.int p3), .val (.int p4), .val (.int p5), .val (.int bo), .val (.int bn), .val (.int be), .val (.ref b1), .val (.ref b4), .val (.ref b8), .val (.ref b10), .val .null, .val (.ref b12), .val (.ref r14), .val (.ref b8), .unset, .unset, .unset, .unset] [(.int (1 : Int32))])) _
          refine XS.goto X16.here hx rfl (pc0 := 246) (pc' := 250) rfl (hb hby at_246) (by decide) (by decide) ?_
          show Steps p.tables e below (T16.setTop (mkF m 250 #[.val (.int p1), .val (.int p2), .val (.int p3), .val (.int p4), .val (.int p5), .val (.int bo), .val (.int bn), .val (.int be), .val (.ref b1), .val (.ref b4), .val (.ref b8), .val (.ref b10), .val .null, .val (.ref b12), .val (.ref r14), .val (.ref b8), .unset, .unset, .unset, .unset] [(.int (1 : Int32))])) _
          refine XS.istore X16.here hx rfl (hb hby at_250) rfl (l' := #[.val (.int p1), .val (.int p2), .val (.int p3), .val (.int p4), .val (.int p5), .val (.int bo), .val (.int bn), .val (.int be), .val (.ref b1), .val (.ref b4), .val (.ref b8), .val (.ref b10), .val .null, .val (.ref b12), .val (.ref r14), .val (.ref b8), .val (.int (1 : Int32)), .unset, .unset, .unset]) rfl ?_
          show Steps p.tables e below (T16.setTop (mkF m 252 #[.val (.int p1), .val (.int p2), .val (.int p3), .val (.int p4), .val (.int p5), .val (.int bo), .val (.int bn), .val (.int be), .val (.ref b1), .val (.ref b4), .val (.ref b8), .val (.ref b10), .val .null, .val (.ref b12), .val (.ref r14), .val (.ref b8), .val (.int (1 : Int32)), .unset, .unset, .unset] [])) _
          refine XS.aload X16.here hx rfl (hb hby at_252) rfl rfl ?_
          show Steps p.tables e below (T16.setTop (mkF m 254 #[.val (.int p1), .val (.int p2), .val (.int p3), .val (.int p4), .val (.int p5), .val (.int bo), .val (.int bn), .val (.int be), .val (.ref b1), .val (.ref b4), .val (.ref b8), .val (.ref b10), .val .null, .val (.ref b12), .val (.ref r14), .val (.ref b8), .val (.int (1 : Int32)), .unset, .unset, .unset] [(.ref r14)])) _
          exact k
        -- pc 254: com/example/fieldloom/fieldloom/mapping/Value.occurrence
        obtain ⟨cq17, kq17, q17a, q17b, q17c⟩ := isOf hZ Kq16 Gq14_0
        obtain ⟨_, _, ⟨T17, L17, k17, n17⟩, -, X17, ⟨Lc17, hQ17, l17, y17, z17⟩, st17⟩ := X16.virtualBack hx (y := (⟨"com/example/fieldloom/fieldloom/mapping/Value", "occurrence", "()Lcom/example/fieldloom/fieldloom/mapping/FieldOccurrence;"⟩ : MethodName)) (z := (⟨"com/example/fieldloom/fieldloom/mapping/Value", "occurrence", "()Lcom/example/fieldloom/fieldloom/mapping/FieldOccurrence;"⟩ : MethodName)) hown (mvT hZ (hw _ (List.mem_of_getElem? (i := 68) rfl))) (mvT hZ (hw _ (List.mem_of_getElem? (i := 69) rfl))) (notFace_of_selects (args := #[]) (mvT hZ (hw _ (List.mem_of_getElem? (i := 71) rfl)))) (mvT hZ (hw _ (List.mem_of_getElem? (i := 71) rfl))) (mvT hZ (hw _ (List.mem_of_getElem? (i := 70) rfl))) (by decide) (backOf (W := 0) (rmGo l Z a0 hw [] r14 (.null) T14.heap n0 O Gq14_2 rfl) hZ (hw _ (List.mem_of_getElem? (i := 72) rfl)) (hw _ (List.mem_of_getElem? (i := 32) rfl)) (by decide) (by decide)) q17a q17c (g := (mkF m 254 #[.val (.int p1), .val (.int p2), .val (.int p3), .val (.int p4), .val (.int p5), .val (.int bo), .val (.int bn), .val (.int be), .val (.ref b1), .val (.ref b4), .val (.ref b8), .val (.ref b10), .val .null, .val (.ref b12), .val (.ref r14), .val (.ref b8), .val (.int (1 : Int32)), .unset, .unset, .unset] [(.ref r14)])) rfl (by rw [hml]; rfl) (Steps.refl _) (argsL := []) (rest := []) (lenOf pd_8 rfl) rfl (by show 2 * 0 + _ ≤ _; exact Nat.le_of_eq rfl) (hb hby at_254) (fun _ hWm => ⟨rfl, Kq16, (by decide : 8 + 0 ≤ _), (by decide : 24 + 0 ≤ _)⟩)
        dsimp only [Pt.U, Pt.locs, Pt.cells, Pt.slots] at X17 l17 y17 z17 st17 hQ17
        subst l17 y17 z17
        obtain ⟨rfl, Nq17, Kq17⟩ := hQ17
        replace N := Fr.app N Nq17
        refine own_go (B := T17.setTop (mkF m 257 #[.val (.int p1), .val (.int p2), .val (.int p3), .val (.int p4), .val (.int p5), .val (.int bo), .val (.int bn), .val (.int be), .val (.ref b1), .val (.ref b4), .val (.ref b8), .val (.ref b10), .val .null, .val (.ref b12), .val (.ref r14), .val (.ref b8), .val (.int (1 : Int32)), .unset, .unset, .unset] [.null])) (fun t k => st17.trans k) ?_
        refine own_go (B := T17.setTop (mkF m 271 #[.val (.int p1), .val (.int p2), .val (.int p3), .val (.int p4), .val (.int p5), .val (.int bo), .val (.int bn), .val (.int be), .val (.ref b1), .val (.ref b4), .val (.ref b8), .val (.ref b10), .val .null, .val (.ref b12), .val (.ref r14), .val (.ref b8), .val (.int (1 : Int32)), .val (.int (1 : Int32)), .unset, .unset] [(.ref r14)])) (fun t k => ?_) ?_
        · show Steps p.tables e below (T17.setTop (mkF m 257 #[.val (.int p1), .val (.int p2), .val (.int p3), .val (.int p4), .val (.int p5), .val (.int bo), .val (.int bn), .val (.int be), .val (.ref b1), .val (.ref b4), .val (.ref b8), .val (.ref b10), .val .null, .val (.ref b12), .val (.ref r14), .val (.ref b8), .val (.int (1 : Int32)), .unset, .unset, .unset] [.null])) _
          refine XS.aload X17.here hx rfl (hb hby at_257) rfl rfl ?_
          show Steps p.tables e below (T17.setTop (mkF m 259 #[.val (.int p1), .val (.int p2), .val (.int p3), .val (.int p4), .val (.int p5), .val (.int bo), .val (.int bn), .val (.int be), .val (.ref b1), .val (.ref b4), .val (.ref b8), .val (.ref b10), .val .null, .val (.ref b12), .val (.ref r14), .val (.ref b8), .val (.int (1 : Int32)), .unset, .unset, .unset] [.null, .null])) _
          refine Jvm.RoadKit.acmp (g := (mkF m 259 #[.val (.int p1), .val (.int p2), .val (.int p3), .val (.int p4), .val (.int p5), .val (.int bo), .val (.int bn), .val (.int be), .val (.ref b1), .val (.ref b4), .val (.ref b8), .val (.ref b10), .val .null, .val (.ref b12), .val (.ref r14), .val (.ref b8), .val (.int (1 : Int32)), .unset, .unset, .unset] [.null, .null])) X17 hx rfl rfl rfl (pc0 := 259) (pc' := 262) (same := true) rfl (hb hby at_259) rfl (decide_eq_true rfl) (by decide) (by decide) ?_
          show Steps p.tables e below (T17.setTop (mkF m 262 #[.val (.int p1), .val (.int p2), .val (.int p3), .val (.int p4), .val (.int p5), .val (.int bo), .val (.int bn), .val (.int be), .val (.ref b1), .val (.ref b4), .val (.ref b8), .val (.ref b10), .val .null, .val (.ref b12), .val (.ref r14), .val (.ref b8), .val (.int (1 : Int32)), .unset, .unset, .unset] [])) _
          refine XS.iconst X17.here hx rfl (hb hby at_262) ?_
          show Steps p.tables e below (T17.setTop (mkF m 263 #[.val (.int p1), .val (.int p2), .val (.int p3), .val (.int p4), .val (.int p5), .val (.int bo), .val (.int bn), .val (.int be), .val (.ref b1), .val (.ref b4), .val (.ref b8), .val (.ref b10), .val .null, .val (.ref b12), .val (.ref r14), .val (.ref b8), .val (.int (1 : Int32)), .unset, .unset, .unset] [(.int (1 : Int32))])) _
          refine XS.goto X17.here hx rfl (pc0 := 263) (pc' := 267) rfl (hb hby at_263) (by decide) (by decide) ?_
          show Steps p.tables e below (T17.setTop (mkF m 267 #[.val (.int p1), .val (.int p2), .val (.int p3), .val (.int p4), .val (.int p5), .val (.int bo), .val (.int bn), .val (.int be), .val (.ref b1), .val (.ref b4), .val (.ref b8), .val (.ref b10), .val .null, .val (.ref b12), .val (.ref r14), .val (.ref b8), .val (.int (1 : Int32)), .unset, .unset, .unset] [(.int (1 : Int32))])) _
          refine XS.istore X17.here hx rfl (hb hby at_267) rfl (l' := #[.val (.int p1), .val (.int p2), .val (.int p3), .val (.int p4), .val (.int p5), .val (.int bo), .val (.int bn), .val (.int be), .val (.ref b1), .val (.ref b4), .val (.ref b8), .val (.ref b10), .val .null, .val (.ref b12), .val (.ref r14), .val (.ref b8), .val (.int (1 : Int32)), .val (.int (1 : Int32)), .unset, .unset]) rfl ?_
          show Steps p.tables e below (T17.setTop (mkF m 269 #[.val (.int p1), .val (.int p2), .val (.int p3), .val (.int p4), .val (.int p5), .val (.int bo), .val (.int bn), .val (.int be), .val (.ref b1), .val (.ref b4), .val (.ref b8), .val (.ref b10), .val .null, .val (.ref b12), .val (.ref r14), .val (.ref b8), .val (.int (1 : Int32)), .val (.int (1 : Int32)), .unset, .unset] [])) _
          refine XS.aload X17.here hx rfl (hb hby at_269) rfl rfl ?_
          show Steps p.tables e below (T17.setTop (mkF m 271 #[.val (.int p1), .val (.int p2), .val (.int p3), .val (.int p4), .val (.int p5), .val (.int bo), .val (.int bn), .val (.int be), .val (.ref b1), .val (.ref b4), .val (.ref b8), .val (.ref b10), .val .null, .val (.ref b12), .val (.ref r14), .val (.ref b8), .val (.int (1 : Int32)), .val (.int (1 : Int32)), .unset, .unset] [(.ref r14)])) _
          exact k
        -- pc 271: com/example/fieldloom/fieldloom/mapping/Value.position
        obtain ⟨cq18, kq18, q18a, q18b, q18c⟩ := isOf hZ Kq17 Gq14_0
        obtain ⟨_, _, ⟨T18, L18, k18, n18⟩, -, X18, ⟨Lc18, hQ18, l18, y18, z18⟩, st18⟩ := X17.virtualBack hx (y := (⟨"com/example/fieldloom/fieldloom/mapping/Value", "position", "()I"⟩ : MethodName)) (z := (⟨"com/example/fieldloom/fieldloom/mapping/Value", "position", "()I"⟩ : MethodName)) hown (mvT hZ (hw _ (List.mem_of_getElem? (i := 73) rfl))) (mvT hZ (hw _ (List.mem_of_getElem? (i := 74) rfl))) (notFace_of_selects (args := #[]) (mvT hZ (hw _ (List.mem_of_getElem? (i := 76) rfl)))) (mvT hZ (hw _ (List.mem_of_getElem? (i := 76) rfl))) (mvT hZ (hw _ (List.mem_of_getElem? (i := 75) rfl))) (by decide) (backOf (W := 0) (rmGp l Z a0 hw [] r14 (1 : Int32) T14.heap n0 O Gq14_3) hZ (hw _ (List.mem_of_getElem? (i := 77) rfl)) (hw _ (List.mem_of_getElem? (i := 32) rfl)) (by decide) (by decide)) q18a q18c (g := (mkF m 271 #[.val (.int p1), .val (.int p2), .val (.int p3), .val (.int p4), .val (.int p5), .val (.int bo), .val (.int bn), .val (.int be), .val (.ref b1), .val (.ref b4), .val (.ref b8), .val (.ref b10), .val .null, .val (.ref b12), .val (.ref r14), .val (.ref b8), .val (.int (1 : Int32)), .val (.int (1 : Int32)), .unset, .unset] [(.ref r14)])) rfl (by rw [hml]; rfl) (Steps.refl _) (argsL := []) (rest := []) (lenOf pd_9 rfl) rfl (by show 2 * 0 + _ ≤ _; exact Nat.le_of_eq rfl) (hb hby at_271) (fun _ hWm => ⟨rfl, Kq17, (by decide : 8 + 0 ≤ _), (by decide : 24 + 0 ≤ _)⟩)
        dsimp only [Pt.U, Pt.locs, Pt.cells, Pt.slots] at X18 l18 y18 z18 st18 hQ18
        subst l18 y18 z18
        obtain ⟨rfl, Nq18, Kq18⟩ := hQ18
        replace N := Fr.app N Nq18
        refine own_go (B := T18.setTop (mkF m 274 #[.val (.int p1), .val (.int p2), .val (.int p3), .val (.int p4), .val (.int p5), .val (.int bo), .val (.int bn), .val (.int be), .val (.ref b1), .val (.ref b4), .val (.ref b8), .val (.ref b10), .val .null, .val (.ref b12), .val (.ref r14), .val (.ref b8), .val (.int (1 : Int32)), .val (.int (1 : Int32)), .unset, .unset] [(.int (1 : Int32))])) (fun t k => st18.trans k) ?_
        refine own_go (B := T18.setTop (mkF m 287 #[.val (.int p1), .val (.int p2), .val (.int p3), .val (.int p4), .val (.int p5), .val (.int bo), .val (.int bn), .val (.int be), .val (.ref b1), .val (.ref b4), .val (.ref b8), .val (.ref b10), .val .null, .val (.ref b12), .val (.ref r14), .val (.ref b8), .val (.int (1 : Int32)), .val (.int (1 : Int32)), .val (.int (1 : Int32)), .unset] [(.ref b12)])) (fun t k => ?_) ?_
        · show Steps p.tables e below (T18.setTop (mkF m 274 #[.val (.int p1), .val (.int p2), .val (.int p3), .val (.int p4), .val (.int p5), .val (.int bo), .val (.int bn), .val (.int be), .val (.ref b1), .val (.ref b4), .val (.ref b8), .val (.ref b10), .val .null, .val (.ref b12), .val (.ref r14), .val (.ref b8), .val (.int (1 : Int32)), .val (.int (1 : Int32)), .unset, .unset] [(.int (1 : Int32))])) _
          refine XS.iconst X18.here hx rfl (hb hby at_274) ?_
          show Steps p.tables e below (T18.setTop (mkF m 275 #[.val (.int p1), .val (.int p2), .val (.int p3), .val (.int p4), .val (.int p5), .val (.int bo), .val (.int bn), .val (.int be), .val (.ref b1), .val (.ref b4), .val (.ref b8), .val (.ref b10), .val .null, .val (.ref b12), .val (.ref r14), .val (.ref b8), .val (.int (1 : Int32)), .val (.int (1 : Int32)), .unset, .unset] [(.int (1 : Int32)), (.int (1 : Int32))])) _
          refine XS.icmpNo X18.here hx rfl (hb hby at_275) rfl (teq rfl).2 ?_
          show Steps p.tables e below (T18.setTop (mkF m 278 #[.val (.int p1), .val (.int p2), .val (.int p3), .val (.int p4), .val (.int p5), .val (.int bo), .val (.int bn), .val (.int be), .val (.ref b1), .val (.ref b4), .val (.ref b8), .val (.ref b10), .val .null, .val (.ref b12), .val (.ref r14), .val (.ref b8), .val (.int (1 : Int32)), .val (.int (1 : Int32)), .unset, .unset] [])) _
          refine XS.iconst X18.here hx rfl (hb hby at_278) ?_
          show Steps p.tables e below (T18.setTop (mkF m 279 #[.val (.int p1), .val (.int p2), .val (.int p3), .val (.int p4), .val (.int p5), .val (.int bo), .val (.int bn), .val (.int be), .val (.ref b1), .val (.ref b4), .val (.ref b8), .val (.ref b10), .val .null, .val (.ref b12), .val (.ref r14), .val (.ref b8), .val (.int (1 : Int32)), .val (.int (1 : Int32)), .unset, .unset] [(.int (1 : Int32))])) _
          refine XS.goto X18.here hx rfl (pc0 := 279) (pc' := 283) rfl (hb hby at_279) (by decide) (by decide) ?_
          show Steps p.tables e below (T18.setTop (mkF m 283 #[.val (.int p1), .val (.int p2), .val (.int p3), .val (.int p4), .val (.int p5), .val (.int bo), .val (.int bn), .val (.int be), .val (.ref b1), .val (.ref b4), .val (.ref b8), .val (.ref b10), .val .null, .val (.ref b12), .val (.ref r14), .val (.ref b8), .val (.int (1 : Int32)), .val (.int (1 : Int32)), .unset, .unset] [(.int (1 : Int32))])) _
          refine XS.istore X18.here hx rfl (hb hby at_283) rfl (l' := #[.val (.int p1), .val (.int p2), .val (.int p3), .val (.int p4), .val (.int p5), .val (.int bo), .val (.int bn), .val (.int be), .val (.ref b1), .val (.ref b4), .val (.ref b8), .val (.ref b10), .val .null, .val (.ref b12), .val (.ref r14), .val (.ref b8), .val (.int (1 : Int32)), .val (.int (1 : Int32)), .val (.int (1 : Int32)), .unset]) rfl ?_
          show Steps p.tables e below (T18.setTop (mkF m 285 #[.val (.int p1), .val (.int p2), .val (.int p3), .val (.int p4), .val (.int p5), .val (.int bo), .val (.int bn), .val (.int be), .val (.ref b1), .val (.ref b4), .val (.ref b8), .val (.ref b10), .val .null, .val (.ref b12), .val (.ref r14), .val (.ref b8), .val (.int (1 : Int32)), .val (.int (1 : Int32)), .val (.int (1 : Int32)), .unset] [])) _
          refine XS.aload X18.here hx rfl (hb hby at_285) rfl rfl ?_
          show Steps p.tables e below (T18.setTop (mkF m 287 #[.val (.int p1), .val (.int p2), .val (.int p3), .val (.int p4), .val (.int p5), .val (.int bo), .val (.int bn), .val (.int be), .val (.ref b1), .val (.ref b4), .val (.ref b8), .val (.ref b10), .val .null, .val (.ref b12), .val (.ref r14), .val (.ref b8), .val (.int (1 : Int32)), .val (.int (1 : Int32)), .val (.int (1 : Int32)), .unset] [(.ref b12)])) _
          exact k
        -- pc 287: com/example/fieldloom/fieldloom/mapping/Value.text
        obtain ⟨cq19, kq19, q19a, q19b, q19c⟩ := isOf hZ Kq18 A12
        obtain ⟨_, _, ⟨T19, L19, k19, n19⟩, -, X19, ⟨Lc19, hQ19, l19, y19, z19⟩, st19⟩ := X18.virtualBack hx (y := (⟨"com/example/fieldloom/fieldloom/mapping/Value", "text", "()Ljava/lang/String;"⟩ : MethodName)) (z := (⟨"com/example/fieldloom/fieldloom/mapping/Value", "text", "()Ljava/lang/String;"⟩ : MethodName)) hown (mvT hZ (hw _ (List.mem_of_getElem? (i := 58) rfl))) (mvT hZ (hw _ (List.mem_of_getElem? (i := 59) rfl))) (notFace_of_selects (args := #[]) (mvT hZ (hw _ (List.mem_of_getElem? (i := 61) rfl)))) (mvT hZ (hw _ (List.mem_of_getElem? (i := 61) rfl))) (mvT hZ (hw _ (List.mem_of_getElem? (i := 60) rfl))) (by decide) (backOf (W := 0) (rmGt l Z a0 hw [] b12 (.ref b10) T14.heap n0 O Gq13_0 rfl) hZ (hw _ (List.mem_of_getElem? (i := 62) rfl)) (hw _ (List.mem_of_getElem? (i := 32) rfl)) (by decide) (by decide)) q19a q19c (g := (mkF m 287 #[.val (.int p1), .val (.int p2), .val (.int p3), .val (.int p4), .val (.int p5), .val (.int bo), .val (.int bn), .val (.int be), .val (.ref b1), .val (.ref b4), .val (.ref b8), .val (.ref b10), .val .null, .val (.ref b12), .val (.ref r14), .val (.ref b8), .val (.int (1 : Int32)), .val (.int (1 : Int32)), .val (.int (1 : Int32)), .unset] [(.ref b12)])) rfl (by rw [hml]; rfl) (Steps.refl _) (argsL := []) (rest := []) (lenOf pd_6 rfl) rfl (by show 2 * 0 + _ ≤ _; exact Nat.le_of_eq rfl) (hb hby at_287) (fun _ hWm => ⟨rfl, Kq18, (by decide : 8 + 0 ≤ _), (by decide : 24 + 0 ≤ _)⟩)
        dsimp only [Pt.U, Pt.locs, Pt.cells, Pt.slots] at X19 l19 y19 z19 st19 hQ19
        subst l19 y19 z19
        obtain ⟨rfl, Nq19, Kq19⟩ := hQ19
        replace N := Fr.app N Nq19
        refine own_go (B := T19.setTop (mkF m 290 #[.val (.int p1), .val (.int p2), .val (.int p3), .val (.int p4), .val (.int p5), .val (.int bo), .val (.int bn), .val (.int be), .val (.ref b1), .val (.ref b4), .val (.ref b8), .val (.ref b10), .val .null, .val (.ref b12), .val (.ref r14), .val (.ref b8), .val (.int (1 : Int32)), .val (.int (1 : Int32)), .val (.int (1 : Int32)), .unset] [(.ref b10)])) (fun t k => st19.trans k) ?_
        refine own_go (B := T19.setTop (mkF m 297 #[.val (.int p1), .val (.int p2), .val (.int p3), .val (.int p4), .val (.int p5), .val (.int bo), .val (.int bn), .val (.int be), .val (.ref b1), .val (.ref b4), .val (.ref b8), .val (.ref b10), .val .null, .val (.ref b12), .val (.ref r14), .val (.ref b8), .val (.int (1 : Int32)), .val (.int (1 : Int32)), .val (.int (1 : Int32)), .unset] [(.ref b12)])) (fun t k => ?_) ?_
        · show Steps p.tables e below (T19.setTop (mkF m 290 #[.val (.int p1), .val (.int p2), .val (.int p3), .val (.int p4), .val (.int p5), .val (.int bo), .val (.int bn), .val (.int be), .val (.ref b1), .val (.ref b4), .val (.ref b8), .val (.ref b10), .val .null, .val (.ref b12), .val (.ref r14), .val (.ref b8), .val (.int (1 : Int32)), .val (.int (1 : Int32)), .val (.int (1 : Int32)), .unset] [(.ref b10)])) _
          refine XS.aload X19.here hx rfl (hb hby at_290) rfl rfl ?_
          show Steps p.tables e below (T19.setTop (mkF m 292 #[.val (.int p1), .val (.int p2), .val (.int p3), .val (.int p4), .val (.int p5), .val (.int bo), .val (.int bn), .val (.int be), .val (.ref b1), .val (.ref b4), .val (.ref b8), .val (.ref b10), .val .null, .val (.ref b12), .val (.ref r14), .val (.ref b8), .val (.int (1 : Int32)), .val (.int (1 : Int32)), .val (.int (1 : Int32)), .unset] [(.ref b10), (.ref b10)])) _
          refine Jvm.RoadKit.acmp (g := (mkF m 292 #[.val (.int p1), .val (.int p2), .val (.int p3), .val (.int p4), .val (.int p5), .val (.int bo), .val (.int bn), .val (.int be), .val (.ref b1), .val (.ref b4), .val (.ref b8), .val (.ref b10), .val .null, .val (.ref b12), .val (.ref r14), .val (.ref b8), .val (.int (1 : Int32)), .val (.int (1 : Int32)), .val (.int (1 : Int32)), .unset] [(.ref b10), (.ref b10)])) X19 hx rfl rfl rfl (pc0 := 292) (pc' := 295) (same := true) rfl (hb hby at_292) rfl (decide_eq_true (congrArg Value.ref rfl)) (by decide) (by decide) ?_
          show Steps p.tables e below (T19.setTop (mkF m 295 #[.val (.int p1), .val (.int p2), .val (.int p3), .val (.int p4), .val (.int p5), .val (.int bo), .val (.int bn), .val (.int be), .val (.ref b1), .val (.ref b4), .val (.ref b8), .val (.ref b10), .val .null, .val (.ref b12), .val (.ref r14), .val (.ref b8), .val (.int (1 : Int32)), .val (.int (1 : Int32)), .val (.int (1 : Int32)), .unset] [])) _
          refine XS.aload X19.here hx rfl (hb hby at_295) rfl rfl ?_
          show Steps p.tables e below (T19.setTop (mkF m 297 #[.val (.int p1), .val (.int p2), .val (.int p3), .val (.int p4), .val (.int p5), .val (.int bo), .val (.int bn), .val (.int be), .val (.ref b1), .val (.ref b4), .val (.ref b8), .val (.ref b10), .val .null, .val (.ref b12), .val (.ref r14), .val (.ref b8), .val (.int (1 : Int32)), .val (.int (1 : Int32)), .val (.int (1 : Int32)), .unset] [(.ref b12)])) _
          exact k
        -- pc 297: com/example/fieldloom/fieldloom/mapping/Value.occurrence
        obtain ⟨cq20, kq20, q20a, q20b, q20c⟩ := isOf hZ Kq19 A12
        obtain ⟨_, _, ⟨T20, L20, k20, n20⟩, -, X20, ⟨Lc20, hQ20, l20, y20, z20⟩, st20⟩ := X19.virtualBack hx (y := (⟨"com/example/fieldloom/fieldloom/mapping/Value", "occurrence", "()Lcom/example/fieldloom/fieldloom/mapping/FieldOccurrence;"⟩ : MethodName)) (z := (⟨"com/example/fieldloom/fieldloom/mapping/Value", "occurrence", "()Lcom/example/fieldloom/fieldloom/mapping/FieldOccurrence;"⟩ : MethodName)) hown (mvT hZ (hw _ (List.mem_of_getElem? (i := 68) rfl))) (mvT hZ (hw _ (List.mem_of_getElem? (i := 69) rfl))) (notFace_of_selects (args := #[]) (mvT hZ (hw _ (List.mem_of_getElem? (i := 71) rfl)))) (mvT hZ (hw _ (List.mem_of_getElem? (i := 71) rfl))) (mvT hZ (hw _ (List.mem_of_getElem? (i := 70) rfl))) (by decide) (backOf (W := 0) (rmGo l Z a0 hw [] b12 (.null) T14.heap n0 O Gq13_1 rfl) hZ (hw _ (List.mem_of_getElem? (i := 72) rfl)) (hw _ (List.mem_of_getElem? (i := 32) rfl)) (by decide) (by decide)) q20a q20c (g := (mkF m 297 #[.val (.int p1), .val (.int p2), .val (.int p3), .val (.int p4), .val (.int p5), .val (.int bo), .val (.int bn), .val (.int be), .val (.ref b1), .val (.ref b4), .val (.ref b8), .val (.ref b10), .val .null, .val (.ref b12), .val (.ref r14), .val (.ref b8), .val (.int (1 : Int32)), .val (.int (1 : Int32)), .val (.int (1 : Int32)), .unset] [(.ref b12)])) rfl (by rw [hml]; rfl) (Steps.refl _) (argsL := []) (rest := []) (lenOf pd_8 rfl) rfl (by show 2 * 0 + _ ≤ _; exact Nat.le_of_eq rfl) (hb hby at_297) (fun _ hWm => ⟨rfl, Kq19, (by decide : 8 + 0 ≤ _), (by decide : 24 + 0 ≤ _)⟩)
        dsimp only [Pt.U, Pt.locs, Pt.cells, Pt.slots] at X20 l20 y20 z20 st20 hQ20
        subst l20 y20 z20
        obtain ⟨rfl, Nq20, Kq20⟩ := hQ20
        replace N := Fr.app N Nq20
        refine own_go (B := T20.setTop (mkF m 300 #[.val (.int p1), .val (.int p2), .val (.int p3), .val (.int p4), .val (.int p5), .val (.int bo), .val (.int bn), .val (.int be), .val (.ref b1), .val (.ref b4), .val (.ref b8), .val (.ref b10), .val .null, .val (.ref b12), .val (.ref r14), .val (.ref b8), .val (.int (1 : Int32)), .val (.int (1 : Int32)), .val (.int (1 : Int32)), .unset] [.null])) (fun t k => st20.trans k) ?_
        refine own_go (B := T20.setTop (mkF m 307 #[.val (.int p1), .val (.int p2), .val (.int p3), .val (.int p4), .val (.int p5), .val (.int bo), .val (.int bn), .val (.int be), .val (.ref b1), .val (.ref b4), .val (.ref b8), .val (.ref b10), .val .null, .val (.ref b12), .val (.ref r14), .val (.ref b8), .val (.int (1 : Int32)), .val (.int (1 : Int32)), .val (.int (1 : Int32)), .unset] [(.ref b12)])) (fun t k => ?_) ?_
        · show Steps p.tables e below (T20.setTop (mkF m 300 #[.val (.int p1), .val (.int p2), .val (.int p3), .val (.int p4), .val (.int p5), .val (.int bo), .val (.int bn), .val (.int be), .val (.ref b1), .val (.ref b4), .val (.ref b8), .val (.ref b10), .val .null, .val (.ref b12), .val (.ref r14), .val (.ref b8), .val (.int (1 : Int32)), .val (.int (1 : Int32)), .val (.int (1 : Int32)), .unset] [.null])) _
          refine XS.aload X20.here hx rfl (hb hby at_300) rfl rfl ?_
          show Steps p.tables e below (T20.setTop (mkF m 302 #[.val (.int p1), .val (.int p2), .val (.int p3), .val (.int p4), .val (.int p5), .val (.int bo), .val (.int bn), .val (.int be), .val (.ref b1), .val (.ref b4), .val (.ref b8), .val (.ref b10), .val .null, .val (.ref b12), .val (.ref r14), .val (.ref b8), .val (.int (1 : Int32)), .val (.int (1 : Int32)), .val (.int (1 : Int32)), .unset] [.null, .null])) _
          refine Jvm.RoadKit.acmp (g := (mkF m 302 #[.val (.int p1), .val (.int p2), .val (.int p3), .val (.int p4), .val (.int p5), .val (.int bo), .val (.int bn), .val (.int be), .val (.ref b1), .val (.ref b4), .val (.ref b8), .val (.ref b10), .val .null, .val (.ref b12), .val (.ref r14), .val (.ref b8), .val (.int (1 : Int32)), .val (.int (1 : Int32)), .val (.int (1 : Int32)), .unset] [.null, .null])) X20 hx rfl rfl rfl (pc0 := 302) (pc' := 305) (same := true) rfl (hb hby at_302) rfl (decide_eq_true rfl) (by decide) (by decide) ?_
          show Steps p.tables e below (T20.setTop (mkF m 305 #[.val (.int p1), .val (.int p2), .val (.int p3), .val (.int p4), .val (.int p5), .val (.int bo), .val (.int bn), .val (.int be), .val (.ref b1), .val (.ref b4), .val (.ref b8), .val (.ref b10), .val .null, .val (.ref b12), .val (.ref r14), .val (.ref b8), .val (.int (1 : Int32)), .val (.int (1 : Int32)), .val (.int (1 : Int32)), .unset] [])) _
          refine XS.aload X20.here hx rfl (hb hby at_305) rfl rfl ?_
          show Steps p.tables e below (T20.setTop (mkF m 307 #[.val (.int p1), .val (.int p2), .val (.int p3), .val (.int p4), .val (.int p5), .val (.int bo), .val (.int bn), .val (.int be), .val (.ref b1), .val (.ref b4), .val (.ref b8), .val (.ref b10), .val .null, .val (.ref b12), .val (.ref r14), .val (.ref b8), .val (.int (1 : Int32)), .val (.int (1 : Int32)), .val (.int (1 : Int32)), .unset] [(.ref b12)])) _
          exact k
        -- pc 307: com/example/fieldloom/fieldloom/mapping/Value.position
        obtain ⟨cq21, kq21, q21a, q21b, q21c⟩ := isOf hZ Kq20 A12
        obtain ⟨_, _, ⟨T21, L21, k21, n21⟩, -, X21, ⟨Lc21, hQ21, l21, y21, z21⟩, st21⟩ := X20.virtualBack hx (y := (⟨"com/example/fieldloom/fieldloom/mapping/Value", "position", "()I"⟩ : MethodName)) (z := (⟨"com/example/fieldloom/fieldloom/mapping/Value", "position", "()I"⟩ : MethodName)) hown (mvT hZ (hw _ (List.mem_of_getElem? (i := 73) rfl))) (mvT hZ (hw _ (List.mem_of_getElem? (i := 74) rfl))) (notFace_of_selects (args := #[]) (mvT hZ (hw _ (List.mem_of_getElem? (i := 76) rfl)))) (mvT hZ (hw _ (List.mem_of_getElem? (i := 76) rfl))) (mvT hZ (hw _ (List.mem_of_getElem? (i := 75) rfl))) (by decide) (backOf (W := 0) (rmGp l Z a0 hw [] b12 p3 T14.heap n0 O Gq13_2) hZ (hw _ (List.mem_of_getElem? (i := 77) rfl)) (hw _ (List.mem_of_getElem? (i := 32) rfl)) (by decide) (by decide)) q21a q21c (g := (mkF m 307 #[.val (.int p1), .val (.int p2), .val (.int p3), .val (.int p4), .val (.int p5), .val (.int bo), .val (.int bn), .val (.int be), .val (.ref b1), .val (.ref b4), .val (.ref b8), .val (.ref b10), .val .null, .val (.ref b12), .val (.ref r14), .val (.ref b8), .val (.int (1 : Int32)), .val (.int (1 : Int32)), .val (.int (1 : Int32)), .unset] [(.ref b12)])) rfl (by rw [hml]; rfl) (Steps.refl _) (argsL := []) (rest := []) (lenOf pd_9 rfl) rfl (by show 2 * 0 + _ ≤ _; exact Nat.le_of_eq rfl) (hb hby at_307) (fun _ hWm => ⟨rfl, Kq20, (by decide : 8 + 0 ≤ _), (by decide : 24 + 0 ≤ _)⟩)
        dsimp only [Pt.U, Pt.locs, Pt.cells, Pt.slots] at X21 l21 y21 z21 st21 hQ21
        subst l21 y21 z21
        obtain ⟨rfl, Nq21, Kq21⟩ := hQ21
        replace N := Fr.app N Nq21
        refine own_go (B := T21.setTop (mkF m 310 #[.val (.int p1), .val (.int p2), .val (.int p3), .val (.int p4), .val (.int p5), .val (.int bo), .val (.int bn), .val (.int be), .val (.ref b1), .val (.ref b4), .val (.ref b8), .val (.ref b10), .val .null, .val (.ref b12), .val (.ref r14), .val (.ref b8), .val (.int (1 : Int32)), .val (.int (1 : Int32)), .val (.int (1 : Int32)), .unset] [(.int p3)])) (fun t k => st21.trans k) ?_
        refine own_go (B := T21.setTop (mkF m 346 #[.val (.int p1), .val (.int p2), .val (.int p3), .val (.int p4), .val (.int p5), .val (.int bo), .val (.int bn), .val (.int be), .val (.ref b1), .val (.ref b4), .val (.ref b8), .val (.ref b10), .val .null, .val (.ref b12), .val (.ref r14), .val (.ref b8), .val (.int (1 : Int32)), .val (.int (1 : Int32)), .val (.int (1 : Int32)), .val (.int (1 : Int32))] [(.int (1 : Int32))])) (fun t k => ?_) ?_
        · show Steps p.tables e below (T21.setTop (mkF m 310 #[.val (.int p1), .val (.int p2), .val (.int p3), .val (.int p4), .val (.int p5), .val (.int bo), .val (.int bn), .val (.int be), .val (.ref b1), .val (.ref b4), .val (.ref b8), .val (.ref b10), .val .null, .val (.ref b12), .val (.ref r14), .val (.ref b8), .val (.int (1 : Int32)), .val (.int (1 : Int32)), .val (.int (1 : Int32)), .unset] [(.int p3)])) _
          refine XS.iloadN X21.here hx rfl (hb hby at_310) rfl ?_
          show Steps p.tables e below (T21.setTop (mkF m 311 #[.val (.int p1), .val (.int p2), .val (.int p3), .val (.int p4), .val (.int p5), .val (.int bo), .val (.int bn), .val (.int be), .val (.ref b1), .val (.ref b4), .val (.ref b8), .val (.ref b10), .val .null, .val (.ref b12), .val (.ref r14), .val (.ref b8), .val (.int (1 : Int32)), .val (.int (1 : Int32)), .val (.int (1 : Int32)), .unset] [(.int p3), (.int p3)])) _
          refine XS.icmpNo X21.here hx rfl (hb hby at_311) rfl (teq rfl).2 ?_
          show Steps p.tables e below (T21.setTop (mkF m 314 #[.val (.int p1), .val (.int p2), .val (.int p3), .val (.int p4), .val (.int p5), .val (.int bo), .val (.int bn), .val (.int be), .val (.ref b1), .val (.ref b4), .val (.ref b8), .val (.ref b10), .val .null, .val (.ref b12), .val (.ref r14), .val (.ref b8), .val (.int (1 : Int32)), .val (.int (1 : Int32)), .val (.int (1 : Int32)), .unset] [])) _
          refine XS.iconst X21.here hx rfl (hb hby at_314) ?_
          show Steps p.tables e below (T21.setTop (mkF m 315 #[.val (.int p1), .val (.int p2), .val (.int p3), .val (.int p4), .val (.int p5), .val (.int bo), .val (.int bn), .val (.int be), .val (.ref b1), .val (.ref b4), .val (.ref b8), .val (.ref b10), .val .null, .val (.ref b12), .val (.ref r14), .val (.ref b8), .val (.int (1 : Int32)), .val (.int (1 : Int32)), .val (.int (1 : Int32)), .unset] [(.int (1 : Int32))])) _
          refine XS.goto X21.here hx rfl (pc0 := 315) (pc' := 319) rfl (hb hby at_315) (by decide) (by decide) ?_
          show Steps p.tables e below (T21.setTop (mkF m 319 #[.val (.int p1), .val (.int p2), .val (.int p3), .val (.int p4), .val (.int p5), .val (.int bo), .val (.int bn), .val (.int be), .val (.ref b1), .val (.ref b4), .val (.ref b8), .val (.ref b10), .val .null, .val (.ref b12), .val (.ref r14), .val (.ref b8), .val (.int (1 : Int32)), .val (.int (1 : Int32)), .val (.int (1 : Int32)), .unset] [(.int (1 : Int32))])) _
          refine XS.istore X21.here hx rfl (hb hby at_319) rfl (l' := #[.val (.int p1), .val (.int p2), .val (.int p3), .val (.int p4), .val (.int p5), .val (.int bo), .val (.int bn), .val (.int be), .val (.ref b1), .val (.ref b4), .val (.ref b8), .val (.ref b10), .val .null, .val (.ref b12), .val (.ref r14), .val (.ref b8), .val (.int (1 : Int32)), .val (.int (1 : Int32)), .val (.int (1 : Int32)), .val (.int (1 : Int32))]) rfl ?_
          show Steps p.tables e below (T21.setTop (mkF m 321 #[.val (.int p1), .val (.int p2), .val (.int p3), .val (.int p4), .val (.int p5), .val (.int bo), .val (.int bn), .val (.int be), .val (.ref b1), .val (.ref b4), .val (.ref b8), .val (.ref b10), .val .null, .val (.ref b12), .val (.ref r14), .val (.ref b8), .val (.int (1 : Int32)), .val (.int (1 : Int32)), .val (.int (1 : Int32)), .val (.int (1 : Int32))] [])) _
          refine XS.iload X21.here hx rfl (hb hby at_321) rfl ?_
          show Steps p.tables e below (T21.setTop (mkF m 323 #[.val (.int p1), .val (.int p2), .val (.int p3), .val (.int p4), .val (.int p5), .val (.int bo), .val (.int bn), .val (.int be), .val (.ref b1), .val (.ref b4), .val (.ref b8), .val (.ref b10), .val .null, .val (.ref b12), .val (.ref r14), .val (.ref b8), .val (.int (1 : Int32)), .val (.int (1 : Int32)), .val (.int (1 : Int32)), .val (.int (1 : Int32))] [(.int (1 : Int32))])) _
          refine XS.ifNo X21.here hx rfl (hb hby at_323) rfl ((if0 _ _).trans (feq (by decide)).1) ?_
          show Steps p.tables e below (T21.setTop (mkF m 326 #[.val (.int p1), .val (.int p2), .val (.int p3), .val (.int p4), .val (.int p5), .val (.int bo), .val (.int bn), .val (.int be), .val (.ref b1), .val (.ref b4), .val (.ref b8), .val (.ref b10), .val .null, .val (.ref b12), .val (.ref r14), .val (.ref b8), .val (.int (1 : Int32)), .val (.int (1 : Int32)), .val (.int (1 : Int32)), .val (.int (1 : Int32))] [])) _
          refine XS.iload X21.here hx rfl (hb hby at_326) rfl ?_
          show Steps p.tables e below (T21.setTop (mkF m 328 #[.val (.int p1), .val (.int p2), .val (.int p3), .val (.int p4), .val (.int p5), .val (.int bo), .val (.int bn), .val (.int be), .val (.ref b1), .val (.ref b4), .val (.ref b8), .val (.ref b10), .val .null, .val (.ref b12), .val (.ref r14), .val (.ref b8), .val (.int (1 : Int32)), .val (.int (1 : Int32)), .val (.int (1 : Int32)), .val (.int (1 : Int32))] [(.int (1 : Int32))])) _
          refine XS.ifNo X21.here hx rfl (hb hby at_328) rfl ((if0 _ _).trans (feq (by decide)).1) ?_
          show Steps p.tables e below (T21.setTop (mkF m 331 #[.val (.int p1), .val (.int p2), .val (.int p3), .val (.int p4), .val (.int p5), .val (.int bo), .val (.int bn), .val (.int be), .val (.ref b1), .val (.ref b4), .val (.ref b8), .val (.ref b10), .val .null, .val (.ref b12), .val (.ref r14), .val (.ref b8), .val (.int (1 : Int32)), .val (.int (1 : Int32)), .val (.int (1 : Int32)), .val (.int (1 : Int32))] [])) _
          refine XS.iload X21.here hx rfl (hb hby at_331) rfl ?_
          show Steps p.tables e below (T21.setTop (mkF m 333 #[.val (.int p1), .val (.int p2), .val (.int p3), .val (.int p4), .val (.int p5), .val (.int bo), .val (.int bn), .val (.int be), .val (.ref b1), .val (.ref b4), .val (.ref b8), .val (.ref b10), .val .null, .val (.ref b12), .val (.ref r14), .val (.ref b8), .val (.int (1 : Int32)), .val (.int (1 : Int32)), .val (.int (1 : Int32)), .val (.int (1 : Int32))] [(.int (1 : Int32))])) _
          refine XS.ifNo X21.here hx rfl (hb hby at_333) rfl ((if0 _ _).trans (feq (by decide)).1) ?_
          show Steps p.tables e below (T21.setTop (mkF m 336 #[.val (.int p1), .val (.int p2), .val (.int p3), .val (.int p4), .val (.int p5), .val (.int bo), .val (.int bn), .val (.int be), .val (.ref b1), .val (.ref b4), .val (.ref b8), .val (.ref b10), .val .null, .val (.ref b12), .val (.ref r14), .val (.ref b8), .val (.int (1 : Int32)), .val (.int (1 : Int32)), .val (.int (1 : Int32)), .val (.int (1 : Int32))] [])) _
          refine XS.iload X21.here hx rfl (hb hby at_336) rfl ?_
          show Steps p.tables e below (T21.setTop (mkF m 338 #[.val (.int p1), .val (.int p2), .val (.int p3), .val (.int p4), .val (.int p5), .val (.int bo), .val (.int bn), .val (.int be), .val (.ref b1), .val (.ref b4), .val (.ref b8), .val (.ref b10), .val .null, .val (.ref b12), .val (.ref r14), .val (.ref b8), .val (.int (1 : Int32)), .val (.int (1 : Int32)), .val (.int (1 : Int32)), .val (.int (1 : Int32))] [(.int (1 : Int32))])) _
          refine XS.ifNo X21.here hx rfl (hb hby at_338) rfl ((if0 _ _).trans (feq (by decide)).1) ?_
          show Steps p.tables e below (T21.setTop (mkF m 341 #[.val (.int p1), .val (.int p2), .val (.int p3), .val (.int p4), .val (.int p5), .val (.int bo), .val (.int bn), .val (.int be), .val (.ref b1), .val (.ref b4), .val (.ref b8), .val (.ref b10), .val .null, .val (.ref b12), .val (.ref r14), .val (.ref b8), .val (.int (1 : Int32)), .val (.int (1 : Int32)), .val (.int (1 : Int32)), .val (.int (1 : Int32))] [])) _
          refine XS.iconst X21.here hx rfl (hb hby at_341) ?_
          show Steps p.tables e below (T21.setTop (mkF m 342 #[.val (.int p1), .val (.int p2), .val (.int p3), .val (.int p4), .val (.int p5), .val (.int bo), .val (.int bn), .val (.int be), .val (.ref b1), .val (.ref b4), .val (.ref b8), .val (.ref b10), .val .null, .val (.ref b12), .val (.ref r14), .val (.ref b8), .val (.int (1 : Int32)), .val (.int (1 : Int32)), .val (.int (1 : Int32)), .val (.int (1 : Int32))] [(.int (1 : Int32))])) _
          refine XS.goto X21.here hx rfl (pc0 := 342) (pc' := 346) rfl (hb hby at_342) (by decide) (by decide) ?_
          show Steps p.tables e below (T21.setTop (mkF m 346 #[.val (.int p1), .val (.int p2), .val (.int p3), .val (.int p4), .val (.int p5), .val (.int bo), .val (.int bn), .val (.int be), .val (.ref b1), .val (.ref b4), .val (.ref b8), .val (.ref b10), .val .null, .val (.ref b12), .val (.ref r14), .val (.ref b8), .val (.int (1 : Int32)), .val (.int (1 : Int32)), .val (.int (1 : Int32)), .val (.int (1 : Int32))] [(.int (1 : Int32))])) _
          exact k
        obtain ⟨fs, hr, hrun, hended, hEnd⟩ := X21.leaveW hS (by rw [Kq21]; exact hk) (v := some (.int (1 : Int32))) (fun h => by rw [Bd.returns] at h; cases h)
        refine ⟨_, _, retN X21 hx (t := .boolean) Bd.returns (by simp) (hb hby at_346) hr, hfin _ _ ⟨hrun, hended, _, _, rfl, ?_, hEnd.1, hEnd.2.1, hEnd.2.2.1, hEnd.2.2.2.mono (by decide) (by decide)⟩⟩
        show Q0 Z p1 p2 p3 p4 p5 zc h0 n0 _ T21.heap _
        rw [Kq21]
        exact ⟨rfl, N⟩
      · refine own_go (B := T11.setTop (mkF m 165 #[.val (.int p1), .val (.int p2), .val (.int p3), .val (.int p4), .val (.int p5), .val (.int bo), .val (.int bn), .val (.int be), .val (.ref b1), .val (.ref b4), .val (.ref b8), .val (.ref b10), .unset, .unset, .unset, .unset, .unset, .unset, .unset, .unset] [])) (fun t k => ?_) ?_
        · show Steps p.tables e below (T11.setTop (mkF m 162 #[.val (.int p1), .val (.int p2), .val (.int p3), .val (.int p4), .val (.int p5), .val (.int bo), .val (.int bn), .val (.int be), .val (.ref b1), .val (.ref b4), .val (.ref b8), .val (.ref b10), .unset, .unset, .unset, .unset, .unset, .unset, .unset, .unset] [(.int bo)])) _
          refine XS.ifNo X11.here hx rfl (hb hby at_162) rfl ((if0 _ _).trans (feq ko).1) ?_
          show Steps p.tables e below (T11.setTop (mkF m 165 #[.val (.int p1), .val (.int p2), .val (.int p3), .val (.int p4), .val (.int p5), .val (.int bo), .val (.int bn), .val (.int be), .val (.ref b1), .val (.ref b4), .val (.ref b8), .val (.ref b10), .unset, .unset, .unset, .unset, .unset, .unset, .unset, .unset] [])) _
          exact k
        obtain ⟨T23, h23, X23, e23, E23, A23, D23, -, st23⟩ := newO X11 hx hZ hown (hw _ (List.mem_of_getElem? (i := 78) rfl)) (hw _ (List.mem_of_getElem? (i := 79) rfl)) (hw _ (List.mem_of_getElem? (i := 80) rfl)) rfl (g := (mkF m 165 #[.val (.int p1), .val (.int p2), .val (.int p3), .val (.int p4), .val (.int p5), .val (.int bo), .val (.int bn), .val (.int be), .val (.ref b1), .val (.ref b4), .val (.ref b8), .val (.ref b10), .unset, .unset, .unset, .unset, .unset, .unset, .unset, .unset] [])) rfl (hb hby at_165) (by decide) (by decide)
        obtain ⟨b23, g23⟩ : ∃ z, z = T11.heap.size := ⟨_, rfl⟩
        rw [← g23] at A23 D23 st23
        have lt_b1_b23 : b1 < b23 := Nat.lt_of_lt_of_le G1.lt (Nat.le_of_eq g23.symm)
        have lt_b4_b23 : b4 < b23 := Nat.lt_of_lt_of_le G4.lt (Nat.le_of_eq g23.symm)
        have lt_b8_b23 : b8 < b23 := Nat.lt_of_lt_of_le Gq9_0.lt (Nat.le_of_eq g23.symm)
        have lt_b10_b23 : b10 < b23 := Nat.lt_of_lt_of_le Gq11_0.lt (Nat.le_of_eq g23.symm)
        have g_b23 : n0 ≤ b23 := Nat.le_trans (own_oldsz O) (Nat.le_of_eq g23.symm)
        have m_b23_23 : h0.size ≤ b23 := Nat.le_trans KM.1 (Nat.le_of_eq g23.symm)
        replace G1 := G1.ext E23
        replace G4 := G4.ext E23
        replace Gq9_0 := Gq9_0.ext E23
        replace Gq11_0 := Gq11_0.ext E23
        replace O := O.ext E23
        replace hk := Nat.le_trans hk E23.1
        replace KM := KM.ext E23
        have F23_tag : Fld Z h23 b23 "com/example/fieldloom/fieldloom/mapping/FieldOccurrence" "tag" "Ljava/lang/String;" .null := D23 (Or.inr (hw _ (List.mem_of_getElem? (i := 86) rfl))) (ty := (.object "java/lang/String")) (by decide)
        have F23_number : Fld Z h23 b23 "com/example/fieldloom/fieldloom/mapping/FieldOccurrence" "number" "I" (.int (0 : Int32)) := D23 (Or.inr (hw _ (List.mem_of_getElem? (i := 88) rfl))) (ty := .int) (by decide)
        have F23_field : Fld Z h23 b23 "com/example/fieldloom/fieldloom/mapping/FieldOccurrence" "field" "Lcom/example/fieldloom/fieldloom/model/DataField;" .null := D23 (Or.inr (hw _ (List.mem_of_getElem? (i := 90) rfl))) (ty := (.object "com/example/fieldloom/fieldloom/model/DataField")) (by decide)
        refine own_go (B := T23.setTop (mkF m 168 #[.val (.int p1), .val (.int p2), .val (.int p3), .val (.int p4), .val (.int p5), .val (.int bo), .val (.int bn), .val (.int be), .val (.ref b1), .val (.ref b4), .val (.ref b8), .val (.ref b10), .unset, .unset, .unset, .unset, .unset, .unset, .unset, .unset] [(.ref b23)])) st23 ?_
        refine own_go (B := T23.setTop (mkF m 173 #[.val (.int p1), .val (.int p2), .val (.int p3), .val (.int p4), .val (.int p5), .val (.int bo), .val (.int bn), .val (.int be), .val (.ref b1), .val (.ref b4), .val (.ref b8), .val (.ref b10), .unset, .unset, .unset, .unset, .unset, .unset, .unset, .unset] [.null, (.int p4), (.ref b10), (.ref b23), (.ref b23)])) (fun t k => ?_) ?_
        · show Steps p.tables e below (T23.setTop (mkF m 168 #[.val (.int p1), .val (.int p2), .val (.int p3), .val (.int p4), .val (.int p5), .val (.int bo), .val (.int bn), .val (.int be), .val (.ref b1), .val (.ref b4), .val (.ref b8), .val (.ref b10), .unset, .unset, .unset, .unset, .unset, .unset, .unset, .unset] [(.ref b23)])) _
          refine XS.dup X23.here hx rfl (hb hby at_168) rfl rfl ?_
          show Steps p.tables e below (T23.setTop (mkF m 169 #[.val (.int p1), .val (.int p2), .val (.int p3), .val (.int p4), .val (.int p5), .val (.int bo), .val (.int bn), .val (.int be), .val (.ref b1), .val (.ref b4), .val (.ref b8), .val (.ref b10), .unset, .unset, .unset, .unset, .unset, .unset, .unset, .unset] [(.ref b23), (.ref b23)])) _
          refine XS.aload X23.here hx rfl (hb hby at_169) rfl rfl ?_
          show Steps p.tables e below (T23.setTop (mkF m 171 #[.val (.int p1), .val (.int p2), .val (.int p3), .val (.int p4), .val (.int p5), .val (.int bo), .val (.int bn), .val (.int be), .val (.ref b1), .val (.ref b4), .val (.ref b8), .val (.ref b10), .unset, .unset, .unset, .unset, .unset, .unset, .unset, .unset] [(.ref b10), (.ref b23), (.ref b23)])) _
          refine XS.iloadN X23.here hx rfl (hb hby at_171) rfl ?_
          show Steps p.tables e below (T23.setTop (mkF m 172 #[.val (.int p1), .val (.int p2), .val (.int p3), .val (.int p4), .val (.int p5), .val (.int bo), .val (.int bn), .val (.int be), .val (.ref b1), .val (.ref b4), .val (.ref b8), .val (.ref b10), .unset, .unset, .unset, .unset, .unset, .unset, .unset, .unset] [(.int p4), (.ref b10), (.ref b23), (.ref b23)])) _
          refine XS.aconstNull X23.here hx rfl (hb hby at_172) ?_
          show Steps p.tables e below (T23.setTop (mkF m 173 #[.val (.int p1), .val (.int p2), .val (.int p3), .val (.int p4), .val (.int p5), .val (.int bo), .val (.int bn), .val (.int be), .val (.ref b1), .val (.ref b4), .val (.ref b8), .val (.ref b10), .unset, .unset, .unset, .unset, .unset, .unset, .unset, .unset] [.null, (.int p4), (.ref b10), (.ref b23), (.ref b23)])) _
          exact k
        -- pc 173: com/example/fieldloom/fieldloom/mapping/FieldOccurrence.<init>
        obtain ⟨_, _, ⟨T24, L24, k24, n24⟩, -, X24, ⟨Lc24, hQ24, l24, y24, z24⟩, st24⟩ := X23.specialBack hx (y := (⟨"com/example/fieldloom/fieldloom/mapping/FieldOccurrence", "<init>", "(Ljava/lang/String;ILcom/example/fieldloom/fieldloom/model/DataField;)V"⟩ : MethodName)) rfl hown (mvT hZ (hw _ (List.mem_of_getElem? (i := 81) rfl))) (mvT hZ (hw _ (List.mem_of_getElem? (i := 82) rfl))) (mvT hZ (hw _ (List.mem_of_getElem? (i := 83) rfl))) (by decide) (backOf (W := 1) (rmFO l Z a0 hw [] b23 b10 p4 h23 n0 O A23 F23_tag F23_number F23_field g_b23) hZ (hw _ (List.mem_of_getElem? (i := 83) rfl)) (hw _ (List.mem_of_getElem? (i := 80) rfl)) (by decide) (by decide)) (g := (mkF m 173 #[.val (.int p1), .val (.int p2), .val (.int p3), .val (.int p4), .val (.int p5), .val (.int bo), .val (.int bn), .val (.int be), .val (.ref b1), .val (.ref b4), .val (.ref b8), .val (.ref b10), .unset, .unset, .unset, .unset, .unset, .unset, .unset, .unset] [.null, (.int p4), (.ref b10), (.ref b23), (.ref b23)])) rfl (by rw [hml]; rfl) (Steps.refl _) (a := b23) (argsL := [(.ref b10), (.int p4), .null]) (rest := [(.ref b23)]) (lenOf pd_10 rfl) rfl (by show 2 * 0 + _ ≤ _; exact Nat.le_of_eq rfl) (hb hby at_173) (fun _ hWm => ⟨rfl, e23, (by decide : 7 + 0 ≤ _), (by decide : 21 + 0 ≤ _)⟩)
        dsimp only [Pt.U, Pt.locs, Pt.cells, Pt.slots] at X24 l24 y24 z24 st24 hQ24
        subst l24 y24 z24
        obtain ⟨rfl, Nq24, Kq24⟩ := hQ24
        replace N := Fr.app N Nq24
        replace G1 := G1.keep Kq24
        replace G4 := G4.keep Kq24
        replace Gq9_0 := Gq9_0.keep Kq24
        replace Gq11_0 := Gq11_0.keep Kq24
        replace A23 := A23.keep Kq24
        clear F23_tag
        clear F23_number
        clear F23_field
        replace O := O.keep Kq24 (allS g_b23 all0)
        replace hk := Nat.le_trans hk Kq24.1
        replace KM := KM.trans Kq24 (allS (Or.inr m_b23_23) all0)
        refine own_go (B := T24.setTop (mkF m 176 #[.val (.int p1), .val (.int p2), .val (.int p3), .val (.int p4), .val (.int p5), .val (.int bo), .val (.int bn), .val (.int be), .val (.ref b1), .val (.ref b4), .val (.ref b8), .val (.ref b10), .unset, .unset, .unset, .unset, .unset, .unset, .unset, .unset] [(.ref b23)])) (fun t k => st24.trans k) ?_
        refine own_go (B := T24.setTop (mkF m 182 #[.val (.int p1), .val (.int p2), .val (.int p3), .val (.int p4), .val (.int p5), .val (.int bo), .val (.int bn), .val (.int be), .val (.ref b1), .val (.ref b4), .val (.ref b8), .val (.ref b10), .val (.ref b23), .unset, .unset, .unset, .unset, .unset, .unset, .unset] [])) (fun t k => ?_) ?_
        · show Steps p.tables e below (T24.setTop (mkF m 176 #[.val (.int p1), .val (.int p2), .val (.int p3), .val (.int p4), .val (.int p5), .val (.int bo), .val (.int bn), .val (.int be), .val (.ref b1), .val (.ref b4), .val (.ref b8), .val (.ref b10), .unset, .unset, .unset, .unset, .unset, .unset, .unset, .unset] [(.ref b23)])) _
          refine XS.goto X24.here hx rfl (pc0 := 176) (pc' := 180) rfl (hb hby at_176) (by decide) (by decide) ?_
          show Steps p.tables e below (T24.setTop (mkF m 180 #[.val (.int p1), .val (.int p2), .val (.int p3), .val (.int p4), .val (.int p5), .val (.int bo), .val (.int bn), .val (.int be), .val (.ref b1), .val (.ref b4), .val (.ref b8), .val (.ref b10), .unset, .unset, .unset, .unset, .unset, .unset, .unset, .unset] [(.ref b23)])) _
          refine XS.astore X24.here hx rfl (hb hby at_180) rfl rfl (l' := #[.val (.int p1), .val (.int p2), .val (.int p3), .val (.int p4), .val (.int p5), .val (.int bo), .val (.int bn), .val (.int be), .val (.ref b1), .val (.ref b4), .val (.ref b8), .val (.ref b10), .val (.ref b23), .unset, .unset, .unset, .unset, .unset, .unset, .unset]) rfl ?_
          show Steps p.tables e below (T24.setTop (mkF m 182 #[.val (.int p1), .val (.int p2), .val (.int p3), .val (.int p4), .val (.int p5), .val (.int bo), .val (.int bn), .val (.int be), .val (.ref b1), .val (.ref b4), .val (.ref b8), .val (.ref b10), .val (.ref b23), .unset, .unset, .unset, .unset, .unset, .unset, .unset] [])) _
          exact k
        obtain ⟨T25, h25, X25, e25, E25, A25, D25, -, st25⟩ := newO X24 hx hZ hown (hw _ (List.mem_of_getElem? (i := 30) rfl)) (hw _ (List.mem_of_getElem? (i := 31) rfl)) (hw _ (List.mem_of_getElem? (i := 32) rfl)) rfl (g := (mkF m 182 #[.val (.int p1), .val (.int p2), .val (.int p3), .val (.int p4), .val (.int p5), .val (.int bo), .val (.int bn), .val (.int be), .val (.ref b1), .val (.ref b4), .val (.ref b8), .val (.ref b10), .val (.ref b23), .unset, .unset, .unset, .unset, .unset, .unset, .unset] [])) rfl (hb hby at_182) (by decide) (by decide)
        obtain ⟨b25, g25⟩ : ∃ z, z = T24.heap.size := ⟨_, rfl⟩
        rw [← g25] at A25 D25 st25
        have lt_b1_b25 : b1 < b25 := Nat.lt_of_lt_of_le G1.lt (Nat.le_of_eq g25.symm)
        have lt_b4_b25 : b4 < b25 := Nat.lt_of_lt_of_le G4.lt (Nat.le_of_eq g25.symm)
        have lt_b8_b25 : b8 < b25 := Nat.lt_of_lt_of_le Gq9_0.lt (Nat.le_of_eq g25.symm)
        have lt_b10_b25 : b10 < b25 := Nat.lt_of_lt_of_le Gq11_0.lt (Nat.le_of_eq g25.symm)
        have lt_b23_b25 : b23 < b25 := Nat.lt_of_lt_of_le A23.lt (Nat.le_of_eq g25.symm)
        have g_b25 : n0 ≤ b25 := Nat.le_trans (own_oldsz O) (Nat.le_of_eq g25.symm)
        have m_b25_25 : h0.size ≤ b25 := Nat.le_trans KM.1 (Nat.le_of_eq g25.symm)
        replace G1 := G1.ext E25
        replace G4 := G4.ext E25
        replace Gq9_0 := Gq9_0.ext E25
        replace Gq11_0 := Gq11_0.ext E25
        replace A23 := A23.ext E25
        replace O := O.ext E25
        replace hk := Nat.le_trans hk E25.1
        replace KM := KM.ext E25
        have F25_text : Fld Z h25 b25 "com/example/fieldloom/fieldloom/mapping/Value" "text" "Ljava/lang/String;" .null := D25 (Or.inr (hw _ (List.mem_of_getElem? (i := 43) rfl))) (ty := (.object "java/lang/String")) (by decide)
        have F25_occurrence : Fld Z h25 b25 "com/example/fieldloom/fieldloom/mapping/Value" "occurrence" "Lcom/example/fieldloom/fieldloom/mapping/FieldOccurrence;" .null := D25 (Or.inr (hw _ (List.mem_of_getElem? (i := 45) rfl))) (ty := (.object "com/example/fieldloom/fieldloom/mapping/FieldOccurrence")) (by decide)
        have F25_position : Fld Z h25 b25 "com/example/fieldloom/fieldloom/mapping/Value" "position" "I" (.int (0 : Int32)) := D25 (Or.inr (hw _ (List.mem_of_getElem? (i := 47) rfl))) (ty := .int) (by decide)
        refine own_go (B := T25.setTop (mkF m 185 #[.val (.int p1), .val (.int p2), .val (.int p3), .val (.int p4), .val (.int p5), .val (.int bo), .val (.int bn), .val (.int be), .val (.ref b1), .val (.ref b4), .val (.ref b8), .val (.ref b10), .val (.ref b23), .unset, .unset, .unset, .unset, .unset, .unset, .unset] [(.ref b25)])) st25 ?_
        refine own_go (B := T25.setTop (mkF m 191 #[.val (.int p1), .val (.int p2), .val (.int p3), .val (.int p4), .val (.int p5), .val (.int bo), .val (.int bn), .val (.int be), .val (.ref b1), .val (.ref b4), .val (.ref b8), .val (.ref b10), .val (.ref b23), .unset, .unset, .unset, .unset, .unset, .unset, .unset] [(.int p3), (.ref b23), (.ref b10), (.ref b25), (.ref b25)])) (fun t k => ?_) ?_
        · show Steps p.tables e below (T25.setTop (mkF m 185 #[.val (.int p1), .val (.int p2), .val (.int p3), .val (.int p4), .val (.int p5), .val (.int bo), .val (.int bn), .val (.int be), .val (.ref b1), .val (.ref b4), .val (.ref b8), .val (.ref b10), .val (.ref b23), .unset, .unset, .unset, .unset, .unset, .unset, .unset] [(.ref b25)])) _
          refine XS.dup X25.here hx rfl (hb hby at_185) rfl rfl ?_
          show Steps p.tables e below (T25.setTop (mkF m 186 #[.val (.int p1), .val (.int p2), .val (.int p3), .val (.int p4), .val (.int p5), .val (.int bo), .val (.int bn), .val (.int be), .val (.ref b1), .val (.ref b4), .val (.ref b8), .val (.ref b10), .val (.ref b23), .unset, .unset, .unset, .unset, .unset, .unset, .unset] [(.ref b25), (.ref b25)])) _
          refine XS.aload X25.here hx rfl (hb hby at_186) rfl rfl ?_
          show Steps p.tables e below (T25.setTop (mkF m 188 #[.val (.int p1), .val (.int p2), .val (.int p3), .val (.int p4), .val (.int p5), .val (.int bo), .val (.int bn), .val (.int be), .val (.ref b1), .val (.ref b4), .val (.ref b8), .val (.ref b10), .val (.ref b23), .unset, .unset, .unset, .unset, .unset, .unset, .unset] [(.ref b10), (.ref b25), (.ref b25)])) _
          refine XS.aload X25.here hx rfl (hb hby at_188) rfl rfl ?_
          show Steps p.tables e below (T25.setTop (mkF m 190 #[.val (.int p1), .val (.int p2), .val (.int p3), .val (.int p4), .val (.int p5), .val (.int bo), .val (.int bn), .val (.int be), .val (.ref b1), .val (.ref b4), .val (.ref b8), .val (.ref b10), .val (.ref b23), .unset, .unset, .unset, .unset, .unset, .unset, .unset] [(.ref b23), (.ref b10), (.ref b25), (.ref b25)])) _
          refine XS.iloadN X25.here hx rfl (hb hby at_190) rfl ?_
          show Steps p.tables e below (T25.setTop (mkF m 191 #[.val (.int p1), .val (.int p2), .val (.int p3), .val (.int p4), .val (.int p5), .val (.int bo), .val (.int bn), .val (.int be), .val (.ref b1), .val (.ref b4), .val (.ref b8), .val (.ref b10), .val (.ref b23), .unset, .unset, .unset, .unset, .unset, .unset, .unset] [(.int p3), (.ref b23), (.ref b10), (.ref b25), (.ref b25)])) _
          exact k
        -- pc 191: com/example/fieldloom/fieldloom/mapping/Value.<init>
        obtain ⟨_, _, ⟨T26, L26, k26, n26⟩, -, X26, ⟨Lc26, hQ26, l26, y26, z26⟩, st26⟩ := X25.specialBack hx (y := (⟨"com/example/fieldloom/fieldloom/mapping/Value", "<init>", "(Ljava/lang/String;Lcom/example/fieldloom/fieldloom/mapping/FieldOccurrence;I)V"⟩ : MethodName)) rfl hown (mvT hZ (hw _ (List.mem_of_getElem? (i := 33) rfl))) (mvT hZ (hw _ (List.mem_of_getElem? (i := 34) rfl))) (mvT hZ (hw _ (List.mem_of_getElem? (i := 35) rfl))) (by decide) (backOf (W := 1) (rmV3 l Z a0 hw [] b25 (.ref b10) (.ref b23) p3 h25 n0 O A25 F25_text F25_occurrence F25_position g_b25 rfl rfl) hZ (hw _ (List.mem_of_getElem? (i := 35) rfl)) (hw _ (List.mem_of_getElem? (i := 32) rfl)) (by decide) (by decide)) (g := (mkF m 191 #[.val (.int p1), .val (.int p2), .val (.int p3), .val (.int p4), .val (.int p5), .val (.int bo), .val (.int bn), .val (.int be), .val (.ref b1), .val (.ref b4), .val (.ref b8), .val (.ref b10), .val (.ref b23), .unset, .unset, .unset, .unset, .unset, .unset, .unset] [(.int p3), (.ref b23), (.ref b10), (.ref b25), (.ref b25)])) rfl (by rw [hml]; rfl) (Steps.refl _) (a := b25) (argsL := [(.ref b10), (.ref b23), (.int p3)]) (rest := [(.ref b25)]) (lenOf pd_2 rfl) rfl (by show 2 * 0 + _ ≤ _; exact Nat.le_of_eq rfl) (hb hby at_191) (fun _ hWm => ⟨rfl, e25, (by decide : 8 + 0 ≤ _), (by decide : 24 + 0 ≤ _)⟩)
        dsimp only [Pt.U, Pt.locs, Pt.cells, Pt.slots] at X26 l26 y26 z26 st26 hQ26
        subst l26 y26 z26
        obtain ⟨rfl, Nq26, Kq26, Gq26_0, Gq26_1, Gq26_2⟩ := hQ26
        replace N := Fr.app N Nq26
        replace G1 := G1.keep Kq26
        replace G4 := G4.keep Kq26
        replace Gq9_0 := Gq9_0.keep Kq26
        replace Gq11_0 := Gq11_0.keep Kq26
        replace A23 := A23.keep Kq26
        replace A25 := A25.keep Kq26
        clear F25_text
        clear F25_occurrence
        clear F25_position
        replace O := O.keep Kq26 (allS g_b25 all0)
        replace hk := Nat.le_trans hk Kq26.1
        replace KM := KM.trans Kq26 (allS (Or.inr m_b25_25) all0)
        refine own_go (B := T26.setTop (mkF m 194 #[.val (.int p1), .val (.int p2), .val (.int p3), .val (.int p4), .val (.int p5), .val (.int bo), .val (.int bn), .val (.int be), .val (.ref b1), .val (.ref b4), .val (.ref b8), .val (.ref b10), .val (.ref b23), .unset, .unset, .unset, .unset, .unset, .unset, .unset] [(.ref b25)])) (fun t k => st26.trans k) ?_
        refine own_go (B := T26.setTop (mkF m 200 #[.val (.int p1), .val (.int p2), .val (.int p3), .val (.int p4), .val (.int p5), .val (.int bo), .val (.int bn), .val (.int be), .val (.ref b1), .val (.ref b4), .val (.ref b8), .val (.ref b10), .val (.ref b23), .val (.ref b25), .unset, .unset, .unset, .unset, .unset, .unset] [(.ref b8), (.ref b25)])) (fun t k => ?_) ?_
        · show Steps p.tables e below (T26.setTop (mkF m 194 #[.val (.int p1), .val (.int p2), .val (.int p3), .val (.int p4), .val (.int p5), .val (.int bo), .val (.int bn), .val (.int be), .val (.ref b1), .val (.ref b4), .val (.ref b8), .val (.ref b10), .val (.ref b23), .unset, .unset, .unset, .unset, .unset, .unset, .unset] [(.ref b25)])) _
          refine XS.astore X26.here hx rfl (hb hby at_194) rfl rfl (l' := #[.val (.int p1), .val (.int p2), .val (.int p3), .val (.int p4), .val (.int p5), .val (.int bo), .val (.int bn), .val (.int be), .val (.ref b1), .val (.ref b4), .val (.ref b8), .val (.ref b10), .val (.ref b23), .val (.ref b25), .unset, .unset, .unset, .unset, .unset, .unset]) rfl ?_
          show Steps p.tables e below (T26.setTop (mkF m 196 #[.val (.int p1), .val (.int p2), .val (.int p3), .val (.int p4), .val (.int p5), .val (.int bo), .val (.int bn), .val (.int be), .val (.ref b1), .val (.ref b4), .val (.ref b8), .val (.ref b10), .val (.ref b23), .val (.ref b25), .unset, .unset, .unset, .unset, .unset, .unset] [])) _
          refine XS.aload X26.here hx rfl (hb hby at_196) rfl rfl ?_
          show Steps p.tables e below (T26.setTop (mkF m 198 #[.val (.int p1), .val (.int p2), .val (.int p3), .val (.int p4), .val (.int p5), .val (.int bo), .val (.int bn), .val (.int be), .val (.ref b1), .val (.ref b4), .val (.ref b8), .val (.ref b10), .val (.ref b23), .val (.ref b25), .unset, .unset, .unset, .unset, .unset, .unset] [(.ref b25)])) _
          refine XS.aload X26.here hx rfl (hb hby at_198) rfl rfl ?_
          show Steps p.tables e below (T26.setTop (mkF m 200 #[.val (.int p1), .val (.int p2), .val (.int p3), .val (.int p4), .val (.int p5), .val (.int bo), .val (.int bn), .val (.int be), .val (.ref b1), .val (.ref b4), .val (.ref b8), .val (.ref b10), .val (.ref b23), .val (.ref b25), .unset, .unset, .unset, .unset, .unset, .unset] [(.ref b8), (.ref b25)])) _
          exact k
        -- pc 200: com/example/fieldloom/fieldloom/mapping/Value.withText
        obtain ⟨cq27, kq27, q27a, q27b, q27c⟩ := isOf hZ rfl A25
        obtain ⟨_, _, ⟨T27, L27, k27, n27⟩, -, X27, ⟨Lc27, hQ27, l27, y27, z27⟩, st27⟩ := X26.virtualBack hx (y := (⟨"com/example/fieldloom/fieldloom/mapping/Value", "withText", "(Ljava/lang/String;)Lcom/example/fieldloom/fieldloom/mapping/Value;"⟩ : MethodName)) (z := (⟨"com/example/fieldloom/fieldloom/mapping/Value", "withText", "(Ljava/lang/String;)Lcom/example/fieldloom/fieldloom/mapping/Value;"⟩ : MethodName)) hown (mvT hZ (hw _ (List.mem_of_getElem? (i := 48) rfl))) (mvT hZ (hw _ (List.mem_of_getElem? (i := 49) rfl))) (notFace_of_selects (args := #[]) (mvT hZ (hw _ (List.mem_of_getElem? (i := 51) rfl)))) (mvT hZ (hw _ (List.mem_of_getElem? (i := 51) rfl))) (mvT hZ (hw _ (List.mem_of_getElem? (i := 50) rfl))) (by decide) (backOf (W := 0) (rmWT l Z a0 hw [] b25 (.ref b8) (.ref b23) T26.heap n0 O Gq26_1 rfl rfl) hZ (hw _ (List.mem_of_getElem? (i := 52) rfl)) (hw _ (List.mem_of_getElem? (i := 32) rfl)) (by decide) (by decide)) q27a q27c (g := (mkF m 200 #[.val (.int p1), .val (.int p2), .val (.int p3), .val (.int p4), .val (.int p5), .val (.int bo), .val (.int bn), .val (.int be), .val (.ref b1), .val (.ref b4), .val (.ref b8), .val (.ref b10), .val (.ref b23), .val (.ref b25), .unset, .unset, .unset, .unset, .unset, .unset] [(.ref b8), (.ref b25)])) rfl (by rw [hml]; rfl) (Steps.refl _) (argsL := [(.ref b8)]) (rest := []) (lenOf pd_5 rfl) rfl (by show 2 * 0 + _ ≤ _; exact Nat.le_of_eq rfl) (hb hby at_200) (fun _ hWm => ⟨rfl, rfl, (by decide : 8 + 1 ≤ _), (by decide : 24 + 3 ≤ _)⟩)
        dsimp only [Pt.U, Pt.locs, Pt.cells, Pt.slots] at X27 l27 y27 z27 st27 hQ27
        subst l27 y27 z27
        obtain ⟨r27, rfl, Nq27, Kq27, fq27_r, Gq27_0, Gq27_1, Gq27_2, Gq27_3⟩ := hQ27
        replace N := Fr.app N Nq27
        have lt_b1_r27 : b1 < r27 := Nat.lt_of_lt_of_le G1.lt fq27_r
        have lt_b4_r27 : b4 < r27 := Nat.lt_of_lt_of_le G4.lt fq27_r
        have lt_b8_r27 : b8 < r27 := Nat.lt_of_lt_of_le Gq9_0.lt fq27_r
        have lt_b10_r27 : b10 < r27 := Nat.lt_of_lt_of_le Gq11_0.lt fq27_r
        have lt_b23_r27 : b23 < r27 := Nat.lt_of_lt_of_le A23.lt fq27_r
        have lt_b25_r27 : b25 < r27 := Nat.lt_of_lt_of_le A25.lt fq27_r
        have g_r27 : n0 ≤ r27 := Nat.le_trans (own_oldsz O) fq27_r
        have m_r27_27 : h0.size ≤ r27 := Nat.le_trans KM.1 fq27_r
        replace G1 := G1.keep Kq27
        replace G4 := G4.keep Kq27
        replace Gq9_0 := Gq9_0.keep Kq27
        replace Gq11_0 := Gq11_0.keep Kq27
        replace A23 := A23.keep Kq27
        replace A25 := A25.keep Kq27
        replace Gq26_0 := Gq26_0.keep Kq27 nin0
        replace Gq26_1 := Gq26_1.keep Kq27 nin0
        replace Gq26_2 := Gq26_2.keep Kq27 nin0
        replace O := O.keep Kq27 all0
        replace hk := Nat.le_trans hk Kq27.1
        replace KM := KM.trans Kq27 all0
        refine own_go (B := T27.setTop (mkF m 203 #[.val (.int p1), .val (.int p2), .val (.int p3), .val (.int p4), .val (.int p5), .val (.int bo), .val (.int bn), .val (.int be), .val (.ref b1), .val (.ref b4), .val (.ref b8), .val (.ref b10), .val (.ref b23), .val (.ref b25), .unset, .unset, .unset, .unset, .unset, .unset] [(.ref r27)])) (fun t k => st27.trans k) ?_
        refine own_go (B := T27.setTop (mkF m 207 #[.val (.int p1), .val (.int p2), .val (.int p3), .val (.int p4), .val (.int p5), .val (.int bo), .val (.int bn), .val (.int be), .val (.ref b1), .val (.ref b4), .val (.ref b8), .val (.ref b10), .val (.ref b23), .val (.ref b25), .val (.ref r27), .unset, .unset, .unset, .unset, .unset] [(.ref r27)])) (fun t k => ?_) ?_
        · show Steps p.tables e below (T27.setTop (mkF m 203 #[.val (.int p1), .val (.int p2), .val (.int p3), .val (.int p4), .val (.int p5), .val (.int bo), .val (.int bn), .val (.int be), .val (.ref b1), .val (.ref b4), .val (.ref b8), .val (.ref b10), .val (.ref b23), .val (.ref b25), .unset, .unset, .unset, .unset, .unset, .unset] [(.ref r27)])) _
          refine XS.astore X27.here hx rfl (hb hby at_203) rfl rfl (l' := #[.val (.int p1), .val (.int p2), .val (.int p3), .val (.int p4), .val (.int p5), .val (.int bo), .val (.int bn), .val (.int be), .val (.ref b1), .val (.ref b4), .val (.ref b8), .val (.ref b10), .val (.ref b23), .val (.ref b25), .val (.ref r27), .unset, .unset, .unset, .unset, .unset]) rfl ?_
          show Steps p.tables e below (T27.setTop (mkF m 205 #[.val (.int p1), .val (.int p2), .val (.int p3), .val (.int p4), .val (.int p5), .val (.int bo), .val (.int bn), .val (.int be), .val (.ref b1), .val (.ref b4), .val (.ref b8), .val (.ref b10), .val (.ref b23), .val (.ref b25), .val (.ref r27), .unset, .unset, .unset, .unset, .unset] [])) _
          refine XS.aload X27.here hx rfl (hb hby at_205) rfl rfl ?_
          show Steps p.tables e below (T27.setTop (mkF m 207 #[.val (.int p1), .val (.int p2), .val (.int p3), .val (.int p4), .val (.int p5), .val (.int bo), .val (.int bn), .val (.int be), .val (.ref b1), .val (.ref b4), .val (.ref b8), .val (.ref b10), .val (.ref b23), .val (.ref b25), .val (.ref r27), .unset, .unset, .unset, .unset, .unset] [(.ref r27)])) _
          exact k
        -- pc 207: com/example/fieldloom/fieldloom/mapping/Value.text
        obtain ⟨cq28, kq28, q28a, q28b, q28c⟩ := isOf hZ rfl Gq27_0
        obtain ⟨_, _, ⟨T28, L28, k28, n28⟩, -, X28, ⟨Lc28, hQ28, l28, y28, z28⟩, st28⟩ := X27.virtualBack hx (y := (⟨"com/example/fieldloom/fieldloom/mapping/Value", "text", "()Ljava/lang/String;"⟩ : MethodName)) (z := (⟨"com/example/fieldloom/fieldloom/mapping/Value", "text", "()Ljava/lang/String;"⟩ : MethodName)) hown (mvT hZ (hw _ (List.mem_of_getElem? (i := 58) rfl))) (mvT hZ (hw _ (List.mem_of_getElem? (i := 59) rfl))) (notFace_of_selects (args := #[]) (mvT hZ (hw _ (List.mem_of_getElem? (i := 61) rfl)))) (mvT hZ (hw _ (List.mem_of_getElem? (i := 61) rfl))) (mvT hZ (hw _ (List.mem_of_getElem? (i := 60) rfl))) (by decide) (backOf (W := 0) (rmGt l Z a0 hw [] r27 (.ref b8) T27.heap n0 O Gq27_1 rfl) hZ (hw _ (List.mem_of_getElem? (i := 62) rfl)) (hw _ (List.mem_of_getElem? (i := 32) rfl)) (by decide) (by decide)) q28a q28c (g := (mkF m 207 #[.val (.int p1), .val (.int p2), .val (.int p3), .val (.int p4), .val (.int p5), .val (.int bo), .val (.int bn), .val (.int be), .val (.ref b1), .val (.ref b4), .val (.ref b8), .val (.ref b10), .val (.ref b23), .val (.ref b25), .val (.ref r27), .unset, .unset, .unset, .unset, .unset] [(.ref r27)])) rfl (by rw [hml]; rfl) (Steps.refl _) (argsL := []) (rest := []) (lenOf pd_6 rfl) rfl (by show 2 * 0 + _ ≤ _; exact Nat.le_of_eq rfl) (hb hby at_207) (fun _ hWm => ⟨rfl, rfl, (by decide : 9 + 0 ≤ _), (by decide : 27 + 0 ≤ _)⟩)
        dsimp only [Pt.U, Pt.locs, Pt.cells, Pt.slots] at X28 l28 y28 z28 st28 hQ28
        subst l28 y28 z28
        obtain ⟨rfl, Nq28, Kq28⟩ := hQ28
        replace N := Fr.app N Nq28
        refine own_go (B := T28.setTop (mkF m 210 #[.val (.int p1), .val (.int p2), .val (.int p3), .val (.int p4), .val (.int p5), .val (.int bo), .val (.int bn), .val (.int be), .val (.ref b1), .val (.ref b4), .val (.ref b8), .val (.ref b10), .val (.ref b23), .val (.ref b25), .val (.ref r27), .unset, .unset, .unset, .unset, .unset] [(.ref b8)])) (fun t k => st28.trans k) ?_
        refine own_go (B := T28.setTop (mkF m 239 #[.val (.int p1), .val (.int p2), .val (.int p3), .val (.int p4), .val (.int p5), .val (.int bo), .val (.int bn), .val (.int be), .val (.ref b1), .val (.ref b4), .val (.ref b8), .val (.ref b10), .val (.ref b23), .val (.ref b25), .val (.ref r27), .val (.ref b8), .unset, .unset, .unset, .unset] [(.ref b8), (.ref b8)])) (fun t k => ?_) ?_
        · show Steps p.tables e below (T28.setTop (mkF m 210 #[.val (.int p1), .val (.int p2), .val (.int p3), .val (.int p4), .val (.int p5), .val (.int bo), .val (.int bn), .val (.int be), .val (.ref b1), .val (.ref b4), .val (.ref b8), .val (.ref b10), .val (.ref b23), .val (.ref b25), .val (.ref r27), .unset, .unset, .unset, .unset, .unset] [(.ref b8)])) _
          refine XS.astore X28.here hx rfl (hb hby at_210) rfl rfl (l' := #[.val (.int p1), .val (.int p2), .val (.int p3), .val (.int p4), .val (.int p5), .val (.int bo), .val (.int bn), .val (.int be), .val (.ref b1), .val (.ref b4), .val (.ref b8), .val (.ref b10), .val (.ref b23), .val (.ref b25), .val (.ref r27), .val (.ref b8), .unset, .unset, .unset, .unset]) rfl ?_
          show Steps p.tables e below (T28.setTop (mkF m 212 #[.val (.int p1), .val (.int p2), .val (.int p3), .val (.int p4), .val (.int p5), .val (.int bo), .val (.int bn), .val (.int be), .val (.ref b1), .val (.ref b4), .val (.ref b8), .val (.ref b10), .val (.ref b23), .val (.ref b25), .val (.ref r27), .val (.ref b8), .unset, .unset, .unset, .unset] [])) _
          refine XS.aload X28.here hx rfl (hb hby at_212) rfl rfl ?_
          show Steps p.tables e below (T28.setTop (mkF m 214 #[.val (.int p1), .val (.int p2), .val (.int p3), .val (.int p4), .val (.int p5), .val (.int bo), .val (.int bn), .val (.int be), .val (.ref b1), .val (.ref b4), .val (.ref b8), .val (.ref b10), .val (.ref b23), .val (.ref b25), .val (.ref r27), .val (.ref b8), .unset, .unset, .unset, .unset] [(.ref b8)])) _
          refine XT.ifnonnullYes X28.here hx rfl (pc0 := 214) (pc' := 230) rfl (hb hby at_214) rfl (by decide) (by decide) ?_
          show Steps p.tables e below (T28.setTop (mkF m 230 #[.val (.int p1), .val (.int p2), .val (.int p3), .val (.int p4), .val (.int p5), .val (.int bo), .val (.int bn), .val (.int be), .val (.ref b1), .val (.ref b4), .val (.ref b8), .val (.ref b10), .val (.ref b23), .val (.ref b25), .val (.ref r27), .val (.ref b8), .unset, .unset, .unset, .unset] [])) _
          refine XS.aload X28.here hx rfl (hb hby at_230) rfl rfl ?_
          show Steps p.tables e below (T28.setTop (mkF m 232 #[.val (.int p1), .val (.int p2), .val (.int p3), .val (.int p4), .val (.int p5), .val (.int bo), .val (.int bn), .val (.int be), .val (.ref b1), .val (.ref b4), .val (.ref b8), .val (.ref b10), .val (.ref b23), .val (.ref b25), .val (.ref r27), .val (.ref b8), .unset, .unset, .unset, .unset] [(.ref b8)])) _
          refine XS.ifnullNo X28.here hx rfl (hb hby at_232) rfl ?_
          show Steps p.tables e below (T28.setTop (mkF m 235 #[.val (.int p1), .val (.int p2), .val (.int p3), .val (.int p4), .val (.int p5), .val (.int bo), .val (.int bn), .val (.int be), .val (.ref b1), .val (.ref b4), .val (.ref b8), .val (.ref b10), .val (.ref b23), .val (.ref b25), .val (.ref r27), .val (.ref b8), .unset, .unset, .unset, .unset] [])) _
          refine XS.aload X28.here hx rfl (hb hby at_235) rfl rfl ?_
          show Steps p.tables e below (T28.setTop (mkF m 237 #[.val (.int p1), .val (.int p2), .val (.int p3), .val (.int p4), .val (.int p5), .val (.int bo), .val (.int bn), .val (.int be), .val (.ref b1), .val (.ref b4), .val (.ref b8), .val (.ref b10), .val (.ref b23), .val (.ref b25), .val (.ref r27), .val (.ref b8), .unset, .unset, .unset, .unset] [(.ref b8)])) _
          refine XS.aload X28.here hx rfl (hb hby at_237) rfl rfl ?_
          show Steps p.tables e below (T28.setTop (mkF m 239 #[.val (.int p1), .val (.int p2), .val (.int p3), .val (.int p4), .val (.int p5), .val (.int bo), .val (.int bn), .val (.int be), .val (.ref b1), .val (.ref b4), .val (.ref b8), .val (.ref b10), .val (.ref b23), .val (.ref b25), .val (.ref r27), .val (.ref b8), .unset, .unset, .unset, .unset] [(.ref b8), (.ref b8)])) _
          exact k
        -- pc 239: java/lang/String.equals
        obtain ⟨cq29, kq29, q29a, q29b, q29c⟩ := isOf hZ Kq28 Gq9_0
        obtain ⟨_, _, ⟨T29, L29, k29, n29⟩, -, X29, ⟨Lc29, hQ29, l29, y29, z29⟩, st29⟩ := X28.virtualBack hx (y := (⟨"java/lang/String", "equals", "(Ljava/lang/Object;)Z"⟩ : MethodName)) (z := (⟨"java/lang/String", "equals", "(Ljava/lang/Object;)Z"⟩ : MethodName)) hown (mvT hZ (hw _ (List.mem_of_getElem? (i := 63) rfl))) (mvT hZ (hw _ (List.mem_of_getElem? (i := 64) rfl))) (notFace_of_selects (args := #[]) (mvT hZ (hw _ (List.mem_of_getElem? (i := 66) rfl)))) (mvT hZ (hw _ (List.mem_of_getElem? (i := 66) rfl))) (mvT hZ (hw _ (List.mem_of_getElem? (i := 65) rfl))) (by decide) (backOf (W := 0) (rmEqS l Z a0 hw [] b8 T27.heap n0 O ) hZ (hw _ (List.mem_of_getElem? (i := 67) rfl)) (hw _ (List.mem_of_getElem? (i := 3) rfl)) (by decide) (by decide)) q29a q29c (g := (mkF m 239 #[.val (.int p1), .val (.int p2), .val (.int p3), .val (.int p4), .val (.int p5), .val (.int bo), .val (.int bn), .val (.int be), .val (.ref b1), .val (.ref b4), .val (.ref b8), .val (.ref b10), .val (.ref b23), .val (.ref b25), .val (.ref r27), .val (.ref b8), .unset, .unset, .unset, .unset] [(.ref b8), (.ref b8)])) rfl (by rw [hml]; rfl) (Steps.refl _) (argsL := [(.ref b8)]) (rest := []) (lenOf pd_7 rfl) rfl (by show 2 * 0 + _ ≤ _; exact Nat.le_of_eq rfl) (hb hby at_239) (fun _ hWm => ⟨rfl, Kq28, (by decide : 9 + 0 ≤ _), (by decide : 27 + 0 ≤ _)⟩)
        dsimp only [Pt.U, Pt.locs, Pt.cells, Pt.slots] at X29 l29 y29 z29 st29 hQ29
        subst l29 y29 z29
        obtain ⟨rfl, Nq29, Kq29⟩ := hQ29
        replace N := Fr.app N Nq29
        refine own_go (B := T29.setTop (mkF m 242 #[.val (.int p1), .val (.int p2), .val (.int p3), .val (.int p4), .val (.int p5), .val (.int bo), .val (.int bn), .val (.int be), .val (.ref b1), .val (.ref b4), .val (.ref b8), .val (.ref b10), .val (.ref b23), .val (.ref b25), .val (.ref r27), .val (.ref b8), .unset, .unset, .unset, .unset] [(.int (1 : Int32))])) (fun t k => st29.trans k) ?_
        refine own_go (B := T29.setTop (mkF m 254 #[.val (.int p1), .val (.int p2), .val (.int p3), .val (.int p4), .val (.int p5), .val (.int bo), .val (.int bn), .val (.int be), .val (.ref b1), .val (.ref b4), .val (.ref b8), .val (.ref b10), .val (.ref b23), .val (.ref b25), .val (.ref r27), .val (.ref b8), .val (.int (1 : Int32)), .unset, .unset, .unset] [(.ref r27)])) (fun t k => ?_) ?_
        · show Steps p.tables e below (T29.setTop (mkF m 242 #[.val (.int p1), .val (.int p2), .val (.int p3), .val (.int p4), .val (.int p5), .val (.int bo), .val (.int bn), .val (.int be), .val (.ref b1), .val (.ref b4), .val (.ref b8), .val (.ref b10), .val (.ref b23), .val (.ref b25), .val (.ref r27), .val (.ref b8), .unset, .unset, .unset, .unset] [(.int (1 : Int32))])) _
          refine XS.ifNo X29.here hx rfl (hb hby at_242) rfl ((if0 _ _).trans (feq (by decide)).1) ?_
          show Steps p.tables e below (T29.setTop (mkF m 245 #[.val (.int p1), .val (.int p2), .val (.int p3), .val (.int p4), .val (.int p5), .val (.int bo), .val (.int bn), .val (.int be), .val (.ref b1), .val (.ref b4), .val (.ref b8), .val (.ref b10), .val (.ref b23), .val (.ref b25), .val (.ref r27), .val (.ref b8), .unset, .unset, .unset, .unset] [])) _
          refine XS.iconst X29.here hx rfl (hb hby at_245) ?_
          show Steps p.tables e below (T29.setTop (mkF m 246 #[.val (.int p1), .val (.int p2), .val (.int p3), .val (.int p4), .val (.int p5), .val (.int bo), .val (.int bn), .val (.int be), .val (.ref b1), .val (.ref b4), .val (.ref b8), .val (.ref b10), .val (.ref b23), .val (.ref b25), .val (.ref r27), .val (.ref b8), .unset, .unset, .unset, .unset] [(.int (1 : Int32))])) _
          refine XS.goto X29.here hx rfl (pc0 := 246) (pc' := 250) rfl (hb hby at_246) (by decide) (by decide) ?_
          show Steps p.tables e below (T29.setTop (mkF m 250 #[.val (.int p1), .val (.int p2), .val (.int p3), .val (.int p4), .val (.int p5), .val (.int bo), .val (.int bn), .val (.int be), .val (.ref b1), .val (.ref b4), .val (.ref b8), .val (.ref b10), .val (.ref b23), .val (.ref b25), .val (.ref r27), .val (.ref b8), .unset, .unset, .unset, .unset] [(.int (1 : Int32))])) _
          refine XS.istore X29.here hx rfl (hb hby at_250) rfl (l' := #[.val (.int p1), .val (.int p2), .val (.int p3), .val (.int p4), .val (.int p5), .val (.int bo), .val (.int bn), .val (.int be), .val (.ref b1), .val (.ref b4), .val (.ref b8), .val (.ref b10), .val (.ref b23), .val (.ref b25), .val (.ref r27), .val (.ref b8), .val (.int (1 : Int32)), .unset, .unset, .unset]) rfl ?_
          show Steps p.tables e below (T29.setTop (mkF m 252 #[.val (.int p1), .val (.int p2), .val (.int p3), .val (.int p4), .val (.int p5), .val (.int bo), .val (.int bn), .val (.int be), .val (.ref b1), .val (.ref b4), .val (.ref b8), .val (.ref b10), .val (.ref b23), .val (.ref b25), .val (.ref r27), .val (.ref b8), .val (.int (1 : Int32)), .unset, .unset, .unset] [])) _
          refine XS.aload X29.here hx rfl (hb hby at_252) rfl rfl ?_
          show Steps p.tables e below (T29.setTop (mkF m 254 #[.val (.int p1), .val (.int p2), .val (.int p3), .val (.int p4), .val (.int p5), .val (.int bo), .val (.int bn), .val (.int be), .val (.ref b1), .val (.ref b4), .val (.ref b8), .val (.ref b10), .val (.ref b23), .val (.ref b25), .val (.ref r27), .val (.ref b8), .val (.int (1 : Int32)), .unset, .unset, .unset] [(.ref r27)])) _
          exact k
        -- pc 254: com/example/fieldloom/fieldloom/mapping/Value.occurrence
        obtain ⟨cq30, kq30, q30a, q30b, q30c⟩ := isOf hZ Kq29 Gq27_0
        obtain ⟨_, _, ⟨T30, L30, k30, n30⟩, -, X30, ⟨Lc30, hQ30, l30, y30, z30⟩, st30⟩ := X29.virtualBack hx (y := (⟨"com/example/fieldloom/fieldloom/mapping/Value", "occurrence", "()Lcom/example/fieldloom/fieldloom/mapping/FieldOccurrence;"⟩ : MethodName)) (z := (⟨"com/example/fieldloom/fieldloom/mapping/Value", "occurrence", "()Lcom/example/fieldloom/fieldloom/mapping/FieldOccurrence;"⟩ : MethodName)) hown (mvT hZ (hw _ (List.mem_of_getElem? (i := 68) rfl))) (mvT hZ (hw _ (List.mem_of_getElem? (i := 69) rfl))) (notFace_of_selects (args := #[]) (mvT hZ (hw _ (List.mem_of_getElem? (i := 71) rfl)))) (mvT hZ (hw _ (List.mem_of_getElem? (i := 71) rfl))) (mvT hZ (hw _ (List.mem_of_getElem? (i := 70) rfl))) (by decide) (backOf (W := 0) (rmGo l Z a0 hw [] r27 (.ref b23) T27.heap n0 O Gq27_2 rfl) hZ (hw _ (List.mem_of_getElem? (i := 72) rfl)) (hw _ (List.mem_of_getElem? (i := 32) rfl)) (by decide) (by decide)) q30a q30c (g := (mkF m 254 #[.val (.int p1), .val (.int p2), .val (.int p3), .val (.int p4), .val (.int p5), .val (.int bo), .val (.int bn), .val (.int be), .val (.ref b1), .val (.ref b4), .val (.ref b8), .val (.ref b10), .val (.ref b23), .val (.ref b25), .val (.ref r27), .val (.ref b8), .val (.int (1 : Int32)), .unset, .unset, .unset] [(.ref r27)])) rfl (by rw [hml]; rfl) (Steps.refl _) (argsL := []) (rest := []) (lenOf pd_8 rfl) rfl (by show 2 * 0 + _ ≤ _; exact Nat.le_of_eq rfl) (hb hby at_254) (fun _ hWm => ⟨rfl, Kq29, (by decide : 9 + 0 ≤ _), (by decide : 27 + 0 ≤ _)⟩)
        dsimp only [Pt.U, Pt.locs, Pt.cells, Pt.slots] at X30 l30 y30 z30 st30 hQ30
        subst l30 y30 z30
        obtain ⟨rfl, Nq30, Kq30⟩ := hQ30
        replace N := Fr.app N Nq30
        refine own_go (B := T30.setTop (mkF m 257 #[.val (.int p1), .val (.int p2), .val (.int p3), .val (.int p4), .val (.int p5), .val (.int bo), .val (.int bn), .val (.int be), .val (.ref b1), .val (.ref b4), .val (.ref b8), .val (.ref b10), .val (.ref b23), .val (.ref b25), .val (.ref r27), .val (.ref b8), .val (.int (1 : Int32)), .unset, .unset, .unset] [(.ref b23)])) (fun t k => st30.trans k) ?_
        refine own_go (B := T30.setTop (mkF m 271 #[.val (.int p1), .val (.int p2), .val (.int p3), .val (.int p4), .val (.int p5), .val (.int bo), .val (.int bn), .val (.int be), .val (.ref b1), .val (.ref b4), .val (.ref b8), .val (.ref b10), .val (.ref b23), .val (.ref b25), .val (.ref r27), .val (.ref b8), .val (.int (1 : Int32)), .val (.int (1 : Int32)), .unset, .unset] [(.ref r27)])) (fun t k => ?_) ?_
        · show Steps p.tables e below (T30.setTop (mkF m 257 #[.val (.int p1), .val (.int p2), .val (.int p3), .val (.int p4), .val (.int p5), .val (.int bo), .val (.int bn), .val (.int be), .val (.ref b1), .val (.ref b4), .val (.ref b8), .val (.ref b10), .val (.ref b23), .val (.ref b25), .val (.ref r27), .val (.ref b8), .val (.int (1 : Int32)), .unset, .unset, .unset] [(.ref b23)])) _
          refine XS.aload X30.here hx rfl (hb hby at_257) rfl rfl ?_
          show Steps p.tables e below (T30.setTop (mkF m 259 #[.val (.int p1), .val (.int p2), .val (.int p3), .val (.int p4), .val (.int p5), .val (.int bo), .val (.int bn), .val (.int be), .val (.ref b1), .val (.ref b4), .val (.ref b8), .val (.ref b10), .val (.ref b23), .val (.ref b25), .val (.ref r27), .val (.ref b8), .val (.int (1 : Int32)), .unset, .unset, .unset] [(.ref b23), (.ref b23)])) _
          refine Jvm.RoadKit.acmp (g := (mkF m 259 #[.val (.int p1), .val (.int p2), .val (.int p3), .val (.int p4), .val (.int p5), .val (.int bo), .val (.int bn), .val (.int be), .val (.ref b1), .val (.ref b4), .val (.ref b8), .val (.ref b10), .val (.ref b23), .val (.ref b25), .val (.ref r27), .val (.ref b8), .val (.int (1 : Int32)), .unset, .unset, .unset] [(.ref b23), (.ref b23)])) X30 hx rfl rfl rfl (pc0 := 259) (pc' := 262) (same := true) rfl (hb hby at_259) rfl (decide_eq_true (congrArg Value.ref rfl)) (by decide) (by decide) ?_
          show Steps p.tables e below (T30.setTop (mkF m 262 #[.val (.int p1), .val (.int p2), .val (.int p3), .val (.int p4), .val (.int p5), .val (.int bo), .val (.int bn), .val (.int be), .val (.ref b1), .val (.ref b4), .val (.ref b8), .val (.ref b10), .val (.ref b23), .val (.ref b25), .val (.ref r27), .val (.ref b8), .val (.int (1 : Int32)), .unset, .unset, .unset] [])) _
          refine XS.iconst X30.here hx rfl (hb hby at_262) ?_
          show Steps p.tables e below (T30.setTop (mkF m 263 #[.val (.int p1), .val (.int p2), .val (.int p3), .val (.int p4), .val (.int p5), .val (.int bo), .val (.int bn), .val (.int be), .val (.ref b1), .val (.ref b4), .val (.ref b8), .val (.ref b10), .val (.ref b23), .val (.ref b25), .val (.ref r27), .val (.ref b8), .val (.int (1 : Int32)), .unset, .unset, .unset] [(.int (1 : Int32))])) _
          refine XS.goto X30.here hx rfl (pc0 := 263) (pc' := 267) rfl (hb hby at_263) (by decide) (by decide) ?_
          show Steps p.tables e below (T30.setTop (mkF m 267 #[.val (.int p1), .val (.int p2), .val (.int p3), .val (.int p4), .val (.int p5), .val (.int bo), .val (.int bn), .val (.int be), .val (.ref b1), .val (.ref b4), .val (.ref b8), .val (.ref b10), .val (.ref b23), .val (.ref b25), .val (.ref r27), .val (.ref b8), .val (.int (1 : Int32)), .unset, .unset, .unset] [(.int (1 : Int32))])) _
          refine XS.istore X30.here hx rfl (hb hby at_267) rfl (l' := #[.val (.int p1), .val (.int p2), .val (.int p3), .val (.int p4), .val (.int p5), .val (.int bo), .val (.int bn), .val (.int be), .val (.ref b1), .val (.ref b4), .val (.ref b8), .val (.ref b10), .val (.ref b23), .val (.ref b25), .val (.ref r27), .val (.ref b8), .val (.int (1 : Int32)), .val (.int (1 : Int32)), .unset, .unset]) rfl ?_
          show Steps p.tables e below (T30.setTop (mkF m 269 #[.val (.int p1), .val (.int p2), .val (.int p3), .val (.int p4), .val (.int p5), .val (.int bo), .val (.int bn), .val (.int be), .val (.ref b1), .val (.ref b4), .val (.ref b8), .val (.ref b10), .val (.ref b23), .val (.ref b25), .val (.ref r27), .val (.ref b8), .val (.int (1 : Int32)), .val (.int (1 : Int32)), .unset, .unset] [])) _
          refine XS.aload X30.here hx rfl (hb hby at_269) rfl rfl ?_
          show Steps p.tables e below (T30.setTop (mkF m 271 #[.val (.int p1), .val (.int p2), .val (.int p3), .val (.int p4), .val (.int p5), .val (.int bo), .val (.int bn), .val (.int be), .val (.ref b1), .val (.ref b4), .val (.ref b8), .val (.ref b10), .val (.ref b23), .val (.ref b25), .val (.ref r27), .val (.ref b8), .val (.int (1 : Int32)), .val (.int (1 : Int32)), .unset, .unset] [(.ref r27)])) _
          exact k
        -- pc 271: com/example/fieldloom/fieldloom/mapping/Value.position
        obtain ⟨cq31, kq31, q31a, q31b, q31c⟩ := isOf hZ Kq30 Gq27_0
        obtain ⟨_, _, ⟨T31, L31, k31, n31⟩, -, X31, ⟨Lc31, hQ31, l31, y31, z31⟩, st31⟩ := X30.virtualBack hx (y := (⟨"com/example/fieldloom/fieldloom/mapping/Value", "position", "()I"⟩ : MethodName)) (z := (⟨"com/example/fieldloom/fieldloom/mapping/Value", "position", "()I"⟩ : MethodName)) hown (mvT hZ (hw _ (List.mem_of_getElem? (i := 73) rfl))) (mvT hZ (hw _ (List.mem_of_getElem? (i := 74) rfl))) (notFace_of_selects (args := #[]) (mvT hZ (hw _ (List.mem_of_getElem? (i := 76) rfl)))) (mvT hZ (hw _ (List.mem_of_getElem? (i := 76) rfl))) (mvT hZ (hw _ (List.mem_of_getElem? (i := 75) rfl))) (by decide) (backOf (W := 0) (rmGp l Z a0 hw [] r27 (1 : Int32) T27.heap n0 O Gq27_3) hZ (hw _ (List.mem_of_getElem? (i := 77) rfl)) (hw _ (List.mem_of_getElem? (i := 32) rfl)) (by decide) (by decide)) q31a q31c (g := (mkF m 271 #[.val (.int p1), .val (.int p2), .val (.int p3), .val (.int p4), .val (.int p5), .val (.int bo), .val (.int bn), .val (.int be), .val (.ref b1), .val (.ref b4), .val (.ref b8), .val (.ref b10), .val (.ref b23), .val (.ref b25), .val (.ref r27), .val (.ref b8), .val (.int (1 : Int32)), .val (.int (1 : Int32)), .unset, .unset] [(.ref r27)])) rfl (by rw [hml]; rfl) (Steps.refl _) (argsL := []) (rest := []) (lenOf pd_9 rfl) rfl (by show 2 * 0 + _ ≤ _; exact Nat.le_of_eq rfl) (hb hby at_271) (fun _ hWm => ⟨rfl, Kq30, (by decide : 9 + 0 ≤ _), (by decide : 27 + 0 ≤ _)⟩)
        dsimp only [Pt.U, Pt.locs, Pt.cells, Pt.slots] at X31 l31 y31 z31 st31 hQ31
        subst l31 y31 z31
        obtain ⟨rfl, Nq31, Kq31⟩ := hQ31
        replace N := Fr.app N Nq31
        refine own_go (B := T31.setTop (mkF m 274 #[.val (.int p1), .val (.int p2), .val (.int p3), .val (.int p4), .val (.int p5), .val (.int bo), .val (.int bn), .val (.int be), .val (.ref b1), .val (.ref b4), .val (.ref b8), .val (.ref b10), .val (.ref b23), .val (.ref b25), .val (.ref r27), .val (.ref b8), .val (.int (1 : Int32)), .val (.int (1 : Int32)), .unset, .unset] [(.int (1 : Int32))])) (fun t k => st31.trans k) ?_
        refine own_go (B := T31.setTop (mkF m 287 #[.val (.int p1), .val (.int p2), .val (.int p3), .val (.int p4), .val (.int p5), .val (.int bo), .val (.int bn), .val (.int be), .val (.ref b1), .val (.ref b4), .val (.ref b8), .val (.ref b10), .val (.ref b23), .val (.ref b25), .val (.ref r27), .val (.ref b8), .val (.int (1 : Int32)), .val (.int (1 : Int32)), .val (.int (1 : Int32)), .unset] [(.ref b25)])) (fun t k => ?_) ?_
        · show Steps p.tables e below (T31.setTop (mkF m 274 #[.val (.int p1), .val (.int p2), .val (.int p3), .val (.int p4), .val (.int p5), .val (.int bo), .val (.int bn), .val (.int be), .val (.ref b1), .val (.ref b4), .val (.ref b8), .val (.ref b10), .val (.ref b23), .val (.ref b25), .val (.ref r27), .val (.ref b8), .val (.int (1 : Int32)), .val (.int (1 : Int32)), .unset, .unset] [(.int (1 : Int32))])) _
          refine XS.iconst X31.here hx rfl (hb hby at_274) ?_
          show Steps p.tables e below (T31.setTop (mkF m 275 #[.val (.int p1), .val (.int p2), .val (.int p3), .val (.int p4), .val (.int p5), .val (.int bo), .val (.int bn), .val (.int be), .val (.ref b1), .val (.ref b4), .val (.ref b8), .val (.ref b10), .val (.ref b23), .val (.ref b25), .val (.ref r27), .val (.ref b8), .val (.int (1 : Int32)), .val (.int (1 : Int32)), .unset, .unset] [(.int (1 : Int32)), (.int (1 : Int32))])) _
          refine XS.icmpNo X31.here hx rfl (hb hby at_275) rfl (teq rfl).2 ?_
          show Steps p.tables e below (T31.setTop (mkF m 278 #[.val (.int p1), .val (.int p2), .val (.int p3), .val (.int p4), .val (.int p5), .val (.int bo), .val (.int bn), .val (.int be), .val (.ref b1), .val (.ref b4), .val (.ref b8), .val (.ref b10), .val (.ref b23), .val (.ref b25), .val (.ref r27), .val (.ref b8), .val (.int (1 : Int32)), .val (.int (1 : Int32)), .unset, .unset] [])) _
          refine XS.iconst X31.here hx rfl (hb hby at_278) ?_
          show Steps p.tables e below (T31.setTop (mkF m 279 #[.val (.int p1), .val (.int p2), .val (.int p3), .val (.int p4), .val (.int p5), .val (.int bo), .val (.int bn), .val (.int be), .val (.ref b1), .val (.ref b4), .val (.ref b8), .val (.ref b10), .val (.ref b23), .val (.ref b25), .val (.ref r27), .val (.ref b8), .val (.int (1 : Int32)), .val (.int (1 : Int32)), .unset, .unset] [(.int (1 : Int32))])) _
          refine XS.goto X31.here hx rfl (pc0 := 279) (pc' := 283) rfl (hb hby at_279) (by decide) (by decide) ?_
          show Steps p.tables e below (T31.setTop (mkF m 283 #[.val (.int p1), .val (.int p2), .val (.int p3), .val (.int p4), .val (.int p5), .val (.int bo), .val (.int bn), .val (.int be), .val (.ref b1), .val (.ref b4), .val (.ref b8), .val (.ref b10), .val (.ref b23), .val (.ref b25), .val (.ref r27), .val (.ref b8), .val (.int (1 : Int32)), .val (.int (1 : Int32)), .unset, .unset] [(.int (1 : Int32))])) _
          refine XS.istore X31.here hx rfl (hb hby at_283) rfl (l' := #[.val (.int p1), .val (.int p2), .val (.int p3), .val (.int p4), .val (.int p5), .val (.int bo), .val (.int bn), .val (.int be), .val (.ref b1), .val (.ref b4), .val (.ref b8), .val (.ref b10), .val (.ref b23), .val (.ref b25), .val (.ref r27), .val (.ref b8), .val (.int (1 : Int32)), .val (.int (1 : Int32)), .val (.int (1 : Int32)), .unset]) rfl ?_
          show Steps p.tables e below (T31.setTop (mkF m 285 #[.val (.int p1), .val (.int p2), .val (.int p3), .val (.int p4), .val (.int p5), .val (.int bo), .val (.int bn), .val (.int be), .val (.ref b1), .val (.ref b4), .val (.ref b8), .val (.ref b10), .val (.ref b23), .val (.ref b25), .val (.ref r27), .val (.ref b8), .val (.int (1 : Int32)), .val (.int (1 : Int32)), .val (.int (1 : Int32)), .unset] [])) _
          refine XS.aload X31.here hx rfl (hb hby at_285) rfl rfl ?_
          show Steps p.tables e below (T31.setTop (mkF m 287 #[.val (.int p1), .val (.int p2), .val (.int p3), .val (.int p4), .val (.int p5), .val (.int bo), .val (.int bn), .val (.int be), .val (.ref b1), .val (.ref b4), .val (.ref b8), .val (.ref b10), .val (.ref b23), .val (.ref b25), .val (.ref r27), .val (.ref b8), .val (.int (1 : Int32)), .val (.int (1 : Int32)), .val (.int (1 : Int32)), .unset] [(.ref b25)])) _
          exact k
        -- pc 287: com/example/fieldloom/fieldloom/mapping/Value.text
        obtain ⟨cq32, kq32, q32a, q32b, q32c⟩ := isOf hZ Kq31 A25
        obtain ⟨_, _, ⟨T32, L32, k32, n32⟩, -, X32, ⟨Lc32, hQ32, l32, y32, z32⟩, st32⟩ := X31.virtualBack hx (y := (⟨"com/example/fieldloom/fieldloom/mapping/Value", "text", "()Ljava/lang/String;"⟩ : MethodName)) (z := (⟨"com/example/fieldloom/fieldloom/mapping/Value", "text", "()Ljava/lang/String;"⟩ : MethodName)) hown (mvT hZ (hw _ (List.mem_of_getElem? (i := 58) rfl))) (mvT hZ (hw _ (List.mem_of_getElem? (i := 59) rfl))) (notFace_of_selects (args := #[]) (mvT hZ (hw _ (List.mem_of_getElem? (i := 61) rfl)))) (mvT hZ (hw _ (List.mem_of_getElem? (i := 61) rfl))) (mvT hZ (hw _ (List.mem_of_getElem? (i := 60) rfl))) (by decide) (backOf (W := 0) (rmGt l Z a0 hw [] b25 (.ref b10) T27.heap n0 O Gq26_0 rfl) hZ (hw _ (List.mem_of_getElem? (i := 62) rfl)) (hw _ (List.mem_of_getElem? (i := 32) rfl)) (by decide) (by decide)) q32a q32c (g := (mkF m 287 #[.val (.int p1), .val (.int p2), .val (.int p3), .val (.int p4), .val (.int p5), .val (.int bo), .val (.int bn), .val (.int be), .val (.ref b1), .val (.ref b4), .val (.ref b8), .val (.ref b10), .val (.ref b23), .val (.ref b25), .val (.ref r27), .val (.ref b8), .val (.int (1 : Int32)), .val (.int (1 : Int32)), .val (.int (1 : Int32)), .unset] [(.ref b25)])) rfl (by rw [hml]; rfl) (Steps.refl _) (argsL := []) (rest := []) (lenOf pd_6 rfl) rfl (by show 2 * 0 + _ ≤ _; exact Nat.le_of_eq rfl) (hb hby at_287) (fun _ hWm => ⟨rfl, Kq31, (by decide : 9 + 0 ≤ _), (by decide : 27 + 0 ≤ _)⟩)
        dsimp only [Pt.U, Pt.locs, Pt.cells, Pt.slots] at X32 l32 y32 z32 st32 hQ32
        subst l32 y32 z32
        obtain ⟨rfl, Nq32, Kq32⟩ := hQ32
        replace N := Fr.app N Nq32
        refine own_go (B := T32.setTop (mkF m 290 #[.val (.int p1), .val (.int p2), .val (.int p3), .val (.int p4), .val (.int p5), .val (.int bo), .val (.int bn), .val (.int be), .val (.ref b1), .val (.ref b4), .val (.ref b8), .val (.ref b10), .val (.ref b23), .val (.ref b25), .val (.ref r27), .val (.ref b8), .val (.int (1 : Int32)), .val (.int (1 : Int32)), .val (.int (1 : Int32)), .unset] [(.ref b10)])) (fun t k => st32.trans k) ?_
        refine own_go (B := T32.setTop (mkF m 297 #[.val (.int p1), .val (.int p2), .val (.int p3), .val (.int p4), .val (.int p5), .val (.int bo), .val (.int bn), .val (.int be), .val (.ref b1), .val (.ref b4), .val (.ref b8), .val (.ref b10), .val (.ref b23), .val (.ref b25), .val (.ref r27), .val (.ref b8), .val (.int (1 : Int32)), .val (.int (1 : Int32)), .val (.int (1 : Int32)), .unset] [(.ref b25)])) (fun t k => ?_) ?_
        · show Steps p.tables e below (T32.setTop (mkF m 290 #[.val (.int p1), .val (.int p2), .val (.int p3), .val (.int p4), .val (.int p5), .val (.int bo), .val (.int bn), .val (.int be), .val (.ref b1), .val (.ref b4), .val (.ref b8), .val (.ref b10), .val (.ref b23), .val (.ref b25), .val (.ref r27), .val (.ref b8), .val (.int (1 : Int32)), .val (.int (1 : Int32)), .val (.int (1 : Int32)), .unset] [(.ref b10)])) _
          refine XS.aload X32.here hx rfl (hb hby at_290) rfl rfl ?_
          show Steps p.tables e below (T32.setTop (mkF m 292 #[.val (.int p1), .val (.int p2), .val (.int p3), .val (.int p4), .val (.int p5), .val (.int bo), .val (.int bn), .val (.int be), .val (.ref b1), .val (.ref b4), .val (.ref b8), .val (.ref b10), .val (.ref b23), .val (.ref b25), .val (.ref r27), .val (.ref b8), .val (.int (1 : Int32)), .val (.int (1 : Int32)), .val (.int (1 : Int32)), .unset] [(.ref b10), (.ref b10)])) _
          refine Jvm.RoadKit.acmp (g := (mkF m 292 #[.val (.int p1), .val (.int p2), .val (.int p3), .val (.int p4), .val (.int p5), .val (.int bo), .val (.int bn), .val (.int be), .val (.ref b1), .val (.ref b4), .val (.ref b8), .val (.ref b10), .val (.ref b23), .val (.ref b25), .val (.ref r27), .val (.ref b8), .val (.int (1 : Int32)), .val (.int (1 : Int32)), .val (.int (1 : Int32)), .unset] [(.ref b10), (.ref b10)])) X32 hx rfl rfl rfl (pc0 := 292) (pc' := 295) (same := true) rfl (hb hby at_292) rfl (decide_eq_true (congrArg Value.ref rfl)) (by decide) (by decide) ?_
          show Steps p.tables e below (T32.setTop (mkF m 295 #[.val (.int p1), .val (.int p2), .val (.int p3), .val (.int p4), .val (.int p5), .val (.int bo), .val (.int bn), .val (.int be), .val (.ref b1), .val (.ref b4), .val (.ref b8), .val (.ref b10), .val (.ref b23), .val (.ref b25), .val (.ref r27), .val (.ref b8), .val (.int (1 : Int32)), .val (.int (1 : Int32)), .val (.int (1 : Int32)), .unset] [])) _
          refine XS.aload X32.here hx rfl (hb hby at_295) rfl rfl ?_
          show Steps p.tables e below (T32.setTop (mkF m 297 #[.val (.int p1), .val (.int p2), .val (.int p3), .val (.int p4), .val (.int p5), .val (.int bo), .val (.int bn), .val (.int be), .val (.ref b1), .val (.ref b4), .val (.ref b8), .val (.ref b10), .val (.ref b23), .val (.ref b25), .val (.ref r27), .val (.ref b8), .val (.int (1 : Int32)), .val (.int (1 : Int32)), .val (.int (1 : Int32)), .unset] [(.ref b25)])) _
          exact k
        -- pc 297: com/example/fieldloom/fieldloom/mapping/Value.occurrence
        obtain ⟨cq33, kq33, q33a, q33b, q33c⟩ := isOf hZ Kq32 A25
        obtain ⟨_, _, ⟨T33, L33, k33, n33⟩, -, X33, ⟨Lc33, hQ33, l33, y33, z33⟩, st33⟩ := X32.virtualBack hx (y := (⟨"com/example/fieldloom/fieldloom/mapping/Value", "occurrence", "()Lcom/example/fieldloom/fieldloom/mapping/FieldOccurrence;"⟩ : MethodName)) (z := (⟨"com/example/fieldloom/fieldloom/mapping/Value", "occurrence", "()Lcom/example/fieldloom/fieldloom/mapping/FieldOccurrence;"⟩ : MethodName)) hown (mvT hZ (hw _ (List.mem_of_getElem? (i := 68) rfl))) (mvT hZ (hw _ (List.mem_of_getElem? (i := 69) rfl))) (notFace_of_selects (args := #[]) (mvT hZ (hw _ (List.mem_of_getElem? (i := 71) rfl)))) (mvT hZ (hw _ (List.mem_of_getElem? (i := 71) rfl))) (mvT hZ (hw _ (List.mem_of_getElem? (i := 70) rfl))) (by decide) (backOf (W := 0) (rmGo l Z a0 hw [] b25 (.ref b23) T27.heap n0 O Gq26_1 rfl) hZ (hw _ (List.mem_of_getElem? (i := 72) rfl)) (hw _ (List.mem_of_getElem? (i := 32) rfl)) (by decide) (by decide)) q33a q33c (g := (mkF m 297 #[.val (.int p1), .val (.int p2), .val (.int p3), .val (.int p4), .val (.int p5), .val (.int bo), .val (.int bn), .val (.int be), .val (.ref b1), .val (.ref b4), .val (.ref b8), .val (.ref b10), .val (.ref b23), .val (.ref b25), .val (.ref r27), .val (.ref b8), .val (.int (1 : Int32)), .val (.int (1 : Int32)), .val (.int (1 : Int32)), .unset] [(.ref b25)])) rfl (by rw [hml]; rfl) (Steps.refl _) (argsL := []) (rest := []) (lenOf pd_8 rfl) rfl (by show 2 * 0 + _ ≤ _; exact Nat.le_of_eq rfl) (hb hby at_297) (fun _ hWm => ⟨rfl, Kq32, (by decide : 9 + 0 ≤ _), (by decide : 27 + 0 ≤ _)⟩)
        dsimp only [Pt.U, Pt.locs, Pt.cells, Pt.slots] at X33 l33 y33 z33 st33 hQ33
        subst l33 y33 z33
        obtain ⟨rfl, Nq33, Kq33⟩ := hQ33
        replace N := Fr.app N Nq33
        refine own_go (B := T33.setTop (mkF m 300 #[.val (.int p1), .val (.int p2), .val (.int p3), .val (.int p4), .val (.int p5), .val (.int bo), .val (.int bn), .val (.int be), .val (.ref b1), .val (.ref b4), .val (.ref b8), .val (.ref b10), .val (.ref b23), .val (.ref b25), .val (.ref r27), .val (.ref b8), .val (.int (1 : Int32)), .val (.int (1 : Int32)), .val (.int (1 : Int32)), .unset] [(.ref b23)])) (fun t k => st33.trans k) ?_
        refine own_go (B := T33.setTop (mkF m 307 #[.val (.int p1), .val (.int p2), .val (.int p3), .val (.int p4), .val (.int p5), .val (.int bo), .val (.int bn), .val (.int be), .val (.ref b1), .val (.ref b4), .val (.ref b8), .val (.ref b10), .val (.ref b23), .val (.ref b25), .val (.ref r27), .val (.ref b8), .val (.int (1 : Int32)), .val (.int (1 : Int32)), .val (.int (1 : Int32)), .unset] [(.ref b25)])) (fun t k => ?_) ?_
        · show Steps p.tables e below (T33.setTop (mkF m 300 #[.val (.int p1), .val (.int p2), .val (.int p3), .val (.int p4), .val (.int p5), .val (.int bo), .val (.int bn), .val (.int be), .val (.ref b1), .val (.ref b4), .val (.ref b8), .val (.ref b10), .val (.ref b23), .val (.ref b25), .val (.ref r27), .val (.ref b8), .val (.int (1 : Int32)), .val (.int (1 : Int32)), .val (.int (1 : Int32)), .unset] [(.ref b23)])) _
          refine XS.aload X33.here hx rfl (hb hby at_300) rfl rfl ?_
          show Steps p.tables e below (T33.setTop (mkF m 302 #[.val (.int p1), .val (.int p2), .val (.int p3), .val (.int p4), .val (.int p5), .val (.int bo), .val (.int bn), .val (.int be), .val (.ref b1), .val (.ref b4), .val (.ref b8), .val (.ref b10), .val (.ref b23), .val (.ref b25), .val (.ref r27), .val (.ref b8), .val (.int (1 : Int32)), .val (.int (1 : Int32)), .val (.int (1 : Int32)), .unset] [(.ref b23), (.ref b23)])) _
          refine Jvm.RoadKit.acmp (g := (mkF m 302 #[.val (.int p1), .val (.int p2), .val (.int p3), .val (.int p4), .val (.int p5), .val (.int bo), .val (.int bn), .val (.int be), .val (.ref b1), .val (.ref b4), .val (.ref b8), .val (.ref b10), .val (.ref b23), .val (.ref b25), .val (.ref r27), .val (.ref b8), .val (.int (1 : Int32)), .val (.int (1 : Int32)), .val (.int (1 : Int32)), .unset] [(.ref b23), (.ref b23)])) X33 hx rfl rfl rfl (pc0 := 302) (pc' := 305) (same := true) rfl (hb hby at_302) rfl (decide_eq_true (congrArg Value.ref rfl)) (by decide) (by decide) ?_
          show Steps p.tables e below (T33.setTop (mkF m 305 #[.val (.int p1), .val (.int p2), .val (.int p3), .val (.int p4), .val (.int p5), .val (.int bo), .val (.int bn), .val (.int be), .val (.ref b1), .val (.ref b4), .val (.ref b8), .val (.ref b10), .val (.ref b23), .val (.ref b25), .val (.ref r27), .val (.ref b8), .val (.int (1 : Int32)), .val (.int (1 : Int32)), .val (.int (1 : Int32)), .unset] [])) _
          refine XS.aload X33.here hx rfl (hb hby at_305) rfl rfl ?_
          show Steps p.tables e below (T33.setTop (mkF m 307 #[.val (.int p1), .val (.int p2), .val (.int p3), .val (.int p4), .val (.int p5), .val (.int bo), .val (.int bn), .val (.int be), .val (.ref b1), .val (.ref b4), .val (.ref b8), .val (.ref b10), .val (.ref b23), .val (.ref b25), .val (.ref r27), .val (.ref b8), .val (.int (1 : Int32)), .val (.int (1 : Int32)), .val (.int (1 : Int32)), .unset] [(.ref b25)])) _
          exact k
        -- pc 307: com/example/fieldloom/fieldloom/mapping/Value.position
        obtain ⟨cq34, kq34, q34a, q34b, q34c⟩ := isOf hZ Kq33 A25
        obtain ⟨_, _, ⟨T34, L34, k34, n34⟩, -, X34, ⟨Lc34, hQ34, l34, y34, z34⟩, st34⟩ := X33.virtualBack hx (y := (⟨"com/example/fieldloom/fieldloom/mapping/Value", "position", "()I"⟩ : MethodName)) (z := (⟨"com/example/fieldloom/fieldloom/mapping/Value", "position", "()I"⟩ : MethodName)) hown (mvT hZ (hw _ (List.mem_of_getElem? (i := 73) rfl))) (mvT hZ (hw _ (List.mem_of_getElem? (i := 74) rfl))) (notFace_of_selects (args := #[]) (mvT hZ (hw _ (List.mem_of_getElem? (i := 76) rfl)))) (mvT hZ (hw _ (List.mem_of_getElem? (i := 76) rfl))) (mvT hZ (hw _ (List.mem_of_getElem? (i := 75) rfl))) (by decide) (backOf (W := 0) (rmGp l Z a0 hw [] b25 p3 T27.heap n0 O Gq26_2) hZ (hw _ (List.mem_of_getElem? (i := 77) rfl)) (hw _ (List.mem_of_getElem? (i := 32) rfl)) (by decide) (by decide)) q34a q34c (g := (mkF m 307 #[.val (.int p1), .val (.int p2), .val (.int p3), .val (.int p4), .val (.int p5), .val (.int bo), .val (.int bn), .val (.int be), .val (.ref b1), .val (.ref b4), .val (.ref b8), .val (.ref b10), .val (.ref b23), .val (.ref b25), .val (.ref r27), .val (.ref b8), .val (.int (1 : Int32)), .val (.int (1 : Int32)), .val (.int (1 : Int32)), .unset] [(.ref b25)])) rfl (by rw [hml]; rfl) (Steps.refl _) (argsL := []) (rest := []) (lenOf pd_9 rfl) rfl (by show 2 * 0 + _ ≤ _; exact Nat.le_of_eq rfl) (hb hby at_307) (fun _ hWm => ⟨rfl, Kq33, (by decide : 9 + 0 ≤ _), (by decide : 27 + 0 ≤ _)⟩)
        dsimp only [Pt.U, Pt.locs, Pt.cells, Pt.slots] at X34 l34 y34 z34 st34 hQ34
        subst l34 y34 z34
        obtain ⟨rfl, Nq34, Kq34⟩ := hQ34
        replace N := Fr.app N Nq34
        refine own_go (B := T34.setTop (mkF m 310 #[.val (.int p1), .val (.int p2), .val (.int p3), .val (.int p4), .val (.int p5), .val (.int bo), .val (.int bn), .val (.int be), .val (.ref b1), .val (.ref b4), .val (.ref b8), .val (.ref b10), .val (.ref b23), .val (.ref b25), .val (.ref r27), .val (.ref b8), .val (.int (1 : Int32)), .val (.int (1 : Int32)), .val (.int (1 : Int32)), .unset] [(.int p3)])) (fun t k => st34.trans k) ?_
        refine own_go (B := T34.setTop (mkF m 346 #[.val (.int p1), .val (.int p2), .val (.int p3), .val (.int p4), .val (.int p5), .val (.int bo), .val (.int bn), .val (.int be), .val (.ref b1), .val (.ref b4), .val (.ref b8), .val (.ref b10), .val (.ref b23), .val (.ref b25), .val (.ref r27), .val (.ref b8), .val (.int (1 : Int32)), .val (.int (1 : Int32)), .val (.int (1 : Int32)), .val (.int (1 : Int32))] [(.int (1 : Int32))])) (fun t k => ?_) ?_
        · show Steps p.tables e below (T34.setTop (mkF m 310 #[.val (.int p1), .val (.int p2), .val (.int p3), .val (.int p4), .val (.int p5), .val (.int bo), .val (.int bn), .val (.int be), .val (.ref b1), .val (.ref b4), .val (.ref b8), .val (.ref b10), .val (.ref b23), .val (.ref b25), .val (.ref r27), .val (.ref b8), .val (.int (1 : Int32)), .val (.int (1 : Int32)), .val (.int (1 : Int32)), .unset] [(.int p3)])) _
          refine XS.iloadN X34.here hx rfl (hb hby at_310) rfl ?_
          show Steps p.tables e below (T34.setTop (mkF m 311 #[.val (.int p1), .val (.int p2), .val (.int p3), .val (.int p4), .val (.int p5), .val (.int bo), .val (.int bn), .val (.int be), .val (.ref b1), .val (.ref b4), .val (.ref b8), .val (.ref b10), .val (.ref b23), .val (.ref b25), .val (.ref r27), .val (.ref b8), .val (.int (1 : Int32)), .val (.int (1 : Int32)), .val (.int (1 : Int32)), .unset] [(.int p3), (.int p3)])) _
          refine XS.icmpNo X34.here hx rfl (hb hby at_311) rfl (teq rfl).2 ?_
          show Steps p.tables e below (T34.setTop (mkF m 314 #[.val (.int p1), .val (.int p2), .val (.int p3), .val (.int p4), .val (.int p5), .val (.int bo), .val (.int bn), .val (.int be), .val (.ref b1), .val (.ref b4), .val (.ref b8), .val (.ref b10), .val (.ref b23), .val (.ref b25), .val (.ref r27), .val (.ref b8), .val (.int (1 : Int32)), .val (.int (1 : Int32)), .val (.int (1 : Int32)), .unset] [])) _
          refine XS.iconst X34.here hx rfl (hb hby at_314) ?_
          show Steps p.tables e below (T34.setTop (mkF m 315 #[.val (.int p1), .val (.int p2), .val (.int p3), .val (.int p4), .val (.int p5), .val (.int bo), .val (.int bn), .val (.int be), .val (.ref b1), .val (.ref b4), .val (.ref b8), .val (.ref b10), .val (.ref b23), .val (.ref b25), .val (.ref r27), .val (.ref b8), .val (.int (1 : Int32)), .val (.int (1 : Int32)), .val (.int (1 : Int32)), .unset] [(.int (1 : Int32))])) _
          refine XS.goto X34.here hx rfl (pc0 := 315) (pc' := 319) rfl (hb hby at_315) (by decide) (by decide) ?_
          show Steps p.tables e below (T34.setTop (mkF m 319 #[.val (.int p1), .val (.int p2), .val (.int p3), .val (.int p4), .val (.int p5), .val (.int bo), .val (.int bn), .val (.int be), .val (.ref b1), .val (.ref b4), .val (.ref b8), .val (.ref b10), .val (.ref b23), .val (.ref b25), .val (.ref r27), .val (.ref b8), .val (.int (1 : Int32)), .val (.int (1 : Int32)), .val (.int (1 : Int32)), .unset] [(.int (1 : Int32))])) _
          refine XS.istore X34.here hx rfl (hb hby at_319) rfl (l' := #[.val (.int p1), .val (.int p2), .val (.int p3), .val (.int p4), .val (.int p5), .val (.int bo), .val (.int bn), .val (.int be), .val (.ref b1), .val (.ref b4), .val (.ref b8), .val (.ref b10), .val (.ref b23), .val (.ref b25), .val (.ref r27), .val (.ref b8), .val (.int (1 : Int32)), .val (.int (1 : Int32)), .val (.int (1 : Int32)), .val (.int (1 : Int32))]) rfl ?_
          show Steps p.tables e below (T34.setTop (mkF m 321 #[.val (.int p1), .val (.int p2), .val (.int p3), .val (.int p4), .val (.int p5), .val (.int bo), .val (.int bn), .val (.int be), .val (.ref b1), .val (.ref b4), .val (.ref b8), .val (.ref b10), .val (.ref b23), .val (.ref b25), .val (.ref r27), .val (.ref b8), .val (.int (1 : Int32)), .val (.int (1 : Int32)), .val (.int (1 : Int32)), .val (.int (1 : Int32))] [])) _
          refine XS.iload X34.here hx rfl (hb hby at_321) rfl ?_
          show Steps p.tables e below (T34.setTop (mkF m 323 #[.val (.int p1), .val (.int p2), .val (.int p3), .val (.int p4), .val (.int p5), .val (.int bo), .val (.int bn), .val (.int be), .val (.ref b1), .val (.ref b4), .val (.ref b8), .val (.ref b10), .val (.ref b23), .val (.ref b25), .val (.ref r27), .val (.ref b8), .val (.int (1 : Int32)), .val (.int (1 : Int32)), .val (.int (1 : Int32)), .val (.int (1 : Int32))] [(.int (1 : Int32))])) _
          refine XS.ifNo X34.here hx rfl (hb hby at_323) rfl ((if0 _ _).trans (feq (by decide)).1) ?_
          show Steps p.tables e below (T34.setTop (mkF m 326 #[.val (.int p1), .val (.int p2), .val (.int p3), .val (.int p4), .val (.int p5), .val (.int bo), .val (.int bn), .val (.int be), .val (.ref b1), .val (.ref b4), .val (.ref b8), .val (.ref b10), .val (.ref b23), .val (.ref b25), .val (.ref r27), .val (.ref b8), .val (.int (1 : Int32)), .val (.int (1 : Int32)), .val (.int (1 : Int32)), .val (.int (1 : Int32))] [])) _
          refine XS.iload X34.here hx rfl (hb hby at_326) rfl ?_
          show Steps p.tables e below (T34.setTop (mkF m 328 #[.val (.int p1), .val (.int p2), .val (.int p3), .val (.int p4), .val (.int p5), .val (.int bo), .val (.int bn), .val (.int be), .val (.ref b1), .val (.ref b4), .val (.ref b8), .val (.ref b10), .val (.ref b23), .val (.ref b25), .val (.ref r27), .val (.ref b8), .val (.int (1 : Int32)), .val (.int (1 : Int32)), .val (.int (1 : Int32)), .val (.int (1 : Int32))] [(.int (1 : Int32))])) _
          refine XS.ifNo X34.here hx rfl (hb hby at_328) rfl ((if0 _ _).trans (feq (by decide)).1) ?_
          show Steps p.tables e below (T34.setTop (mkF m 331 #[.val (.int p1), .val (.int p2), .val (.int p3), .val (.int p4), .val (.int p5), .val (.int bo), .val (.int bn), .val (.int be), .val (.ref b1), .val (.ref b4), .val (.ref b8), .val (.ref b10), .val (.ref b23), .val (.ref b25), .val (.ref r27), .val (.ref b8), .val (.int (1 : Int32)), .val (.int (1 : Int32)), .val (.int (1 : Int32)), .val (.int (1 : Int32))] [])) _
          refine XS.iload X34.here hx rfl (hb hby at_331) rfl ?_
          show Steps p.tables e below (T34.setTop (mkF m 333 #[.val (.int p1), .val (.int p2), .val (.int p3), .val (.int p4), .val (.int p5), .val (.int bo), .val (.int bn), .val (.int be), .val (.ref b1), .val (.ref b4), .val (.ref b8), .val (.ref b10), .val (.ref b23), .val (.ref b25), .val (.ref r27), .val (.ref b8), .val (.int (1 : Int32)), .val (.int (1 : Int32)), .val (.int (1 : Int32)), .val (.int (1 : Int32))] [(.int (1 : Int32))])) _
          refine XS.ifNo X34.here hx rfl (hb hby at_333) rfl ((if0 _ _).trans (feq (by decide)).1) ?_
          show Steps p.tables e below (T34.setTop (mkF m 336 #[.val (.int p1), .val (.int p2), .val (.int p3), .val (.int p4), .val (.int p5), .val (.int bo), .val (.int bn), .val (.int be), .val (.ref b1), .val (.ref b4), .val (.ref b8), .val (.ref b10), .val (.ref b23), .val (.ref b25), .val (.ref r27), .val (.ref b8), .val (.int (1 : Int32)), .val (.int (1 : Int32)), .val (.int (1 : Int32)), .val (.int (1 : Int32))] [])) _
          refine XS.iload X34.here hx rfl (hb hby at_336) rfl ?_
          show Steps p.tables e below (T34.setTop (mkF m 338 #[.val (.int p1), .val (.int p2), .val (.int p3), .val (.int p4), .val (.int p5), .val (.int bo), .val (.int bn), .val (.int be), .val (.ref b1), .val (.ref b4), .val (.ref b8), .val (.ref b10), .val (.ref b23), .val (.ref b25), .val (.ref r27), .val (.ref b8), .val (.int (1 : Int32)), .val (.int (1 : Int32)), .val (.int (1 : Int32)), .val (.int (1 : Int32))] [(.int (1 : Int32))])) _
          refine XS.ifNo X34.here hx rfl (hb hby at_338) rfl ((if0 _ _).trans (feq (by decide)).1) ?_
          show Steps p.tables e below (T34.setTop (mkF m 341 #[.val (.int p1), .val (.int p2), .val (.int p3), .val (.int p4), .val (.int p5), .val (.int bo), .val (.int bn), .val (.int be), .val (.ref b1), .val (.ref b4), .val (.ref b8), .val (.ref b10), .val (.ref b23), .val (.ref b25), .val (.ref r27), .val (.ref b8), .val (.int (1 : Int32)), .val (.int (1 : Int32)), .val (.int (1 : Int32)), .val (.int (1 : Int32))] [])) _
          refine XS.iconst X34.here hx rfl (hb hby at_341) ?_
          show Steps p.tables e below (T34.setTop (mkF m 342 #[.val (.int p1), .val (.int p2), .val (.int p3), .val (.int p4), .val (.int p5), .val (.int bo), .val (.int bn), .val (.int be), .val (.ref b1), .val (.ref b4), .val (.ref b8), .val (.ref b10), .val (.ref b23), .val (.ref b25), .val (.ref r27), .val (.ref b8), .val (.int (1 : Int32)), .val (.int (1 : Int32)), .val (.int (1 : Int32)), .val (.int (1 : Int32))] [(.int (1 : Int32))])) _
          refine XS.goto X34.here hx rfl (pc0 := 342) (pc' := 346) rfl (hb hby at_342) (by decide) (by decide) ?_
          show Steps p.tables e below (T34.setTop (mkF m 346 #[.val (.int p1), .val (.int p2), .val (.int p3), .val (.int p4), .val (.int p5), .val (.int bo), .val (.int bn), .val (.int be), .val (.ref b1), .val (.ref b4), .val (.ref b8), .val (.ref b10), .val (.ref b23), .val (.ref b25), .val (.ref r27), .val (.ref b8), .val (.int (1 : Int32)), .val (.int (1 : Int32)), .val (.int (1 : Int32)), .val (.int (1 : Int32))] [(.int (1 : Int32))])) _
          exact k
        obtain ⟨fs, hr, hrun, hended, hEnd⟩ := X34.leaveW hS (by rw [Kq34]; exact hk) (v := some (.int (1 : Int32))) (fun h => by rw [Bd.returns] at h; cases h)
        refine ⟨_, _, retN X34 hx (t := .boolean) Bd.returns (by simp) (hb hby at_346) hr, hfin _ _ ⟨hrun, hended, _, _, rfl, ?_, hEnd.1, hEnd.2.1, hEnd.2.2.1, hEnd.2.2.2.mono (by decide) (by decide)⟩⟩
        show Q0 Z p1 p2 p3 p4 p5 zc h0 n0 _ T34.heap _
        rw [Kq34]
        exact ⟨rfl, N⟩
    · refine own_go (B := T7.setTop (mkF m 125 #[.val (.int p1), .val (.int p2), .val (.int p3), .val (.int p4), .val (.int p5), .val (.int bo), .val (.int bn), .val (.int be), .val (.ref b1), .val (.ref b4), .unset, .unset, .unset, .unset, .unset, .unset, .unset, .unset, .unset, .unset] [])) (fun t k => ?_) ?_
      · show Steps p.tables e below (T7.setTop (mkF m 122 #[.val (.int p1), .val (.int p2), .val (.int p3), .val (.int p4), .val (.int p5), .val (.int bo), .val (.int bn), .val (.int be), .val (.ref b1), .val (.ref b4), .unset, .unset, .unset, .unset, .unset, .unset, .unset, .unset, .unset, .unset] [(.int be)])) _
        refine XS.ifNo X7.here hx rfl (hb hby at_122) rfl ((if0 _ _).trans (feq ke).1) ?_
        show Steps p.tables e below (T7.setTop (mkF m 125 #[.val (.int p1), .val (.int p2), .val (.int p3), .val (.int p4), .val (.int p5), .val (.int bo), .val (.int bn), .val (.int be), .val (.ref b1), .val (.ref b4), .unset, .unset, .unset, .unset, .unset, .unset, .unset, .unset, .unset, .unset] [])) _
        exact k
      obtain ⟨T36, h36, X36, e36, E36, A36, D36, -, st36⟩ := newO X7 hx hZ hown (hw _ (List.mem_of_getElem? (i := 1) rfl)) (hw _ (List.mem_of_getElem? (i := 2) rfl)) (hw _ (List.mem_of_getElem? (i := 3) rfl)) e7 (g := (mkF m 125 #[.val (.int p1), .val (.int p2), .val (.int p3), .val (.int p4), .val (.int p5), .val (.int bo), .val (.int bn), .val (.int be), .val (.ref b1), .val (.ref b4), .unset, .unset, .unset, .unset, .unset, .unset, .unset, .unset, .unset, .unset] [])) rfl (hb hby at_125) (by decide) (by decide)
      obtain ⟨b36, g36⟩ : ∃ z, z = h7.size := ⟨_, rfl⟩
      rw [← g36] at A36 D36 st36
      have lt_b1_b36 : b1 < b36 := Nat.lt_of_lt_of_le G1.lt (Nat.le_of_eq g36.symm)
      have lt_b4_b36 : b4 < b36 := Nat.lt_of_lt_of_le G4.lt (Nat.le_of_eq g36.symm)
      have g_b36 : n0 ≤ b36 := Nat.le_trans (own_oldsz O) (Nat.le_of_eq g36.symm)
      have m_b36_36 : h0.size ≤ b36 := Nat.le_trans KM.1 (Nat.le_of_eq g36.symm)
      replace G1 := G1.ext E36
      replace V3 := V3.ext E36
      replace G4 := G4.ext E36
      replace V7 := V7.ext E36
      replace O := O.ext E36
      replace hk := Nat.le_trans hk E36.1
      replace KM := KM.ext E36
      have F36_coder : Fld Z h36 b36 "java/lang/String" "coder" "B" (.int (0 : Int32)) := D36 (Or.inr (hw _ (List.mem_of_getElem? (i := 27) rfl))) (ty := .byte) (by decide)
      have F36_value : Fld Z h36 b36 "java/lang/String" "value" "[B" .null := D36 (Or.inr (hw _ (List.mem_of_getElem? (i := 29) rfl))) (ty := (.array .byte)) (by decide)
      refine own_go (B := T36.setTop (mkF m 128 #[.val (.int p1), .val (.int p2), .val (.int p3), .val (.int p4), .val (.int p5), .val (.int bo), .val (.int bn), .val (.int be), .val (.ref b1), .val (.ref b4), .unset, .unset, .unset, .unset, .unset, .unset, .unset, .unset, .unset, .unset] [(.ref b36)])) st36 ?_
      refine own_go (B := T36.setTop (mkF m 130 #[.val (.int p1), .val (.int p2), .val (.int p3), .val (.int p4), .val (.int p5), .val (.int bo), .val (.int bn), .val (.int be), .val (.ref b1), .val (.ref b4), .unset, .unset, .unset, .unset, .unset, .unset, .unset, .unset, .unset, .unset] [(.int (0 : Int32)), (.ref b36), (.ref b36)])) (fun t k => ?_) ?_
      · show Steps p.tables e below (T36.setTop (mkF m 128 #[.val (.int p1), .val (.int p2), .val (.int p3), .val (.int p4), .val (.int p5), .val (.int bo), .val (.int bn), .val (.int be), .val (.ref b1), .val (.ref b4), .unset, .unset, .unset, .unset, .unset, .unset, .unset, .unset, .unset, .unset] [(.ref b36)])) _
        refine XS.dup X36.here hx rfl (hb hby at_128) rfl rfl ?_
        show Steps p.tables e below (T36.setTop (mkF m 129 #[.val (.int p1), .val (.int p2), .val (.int p3), .val (.int p4), .val (.int p5), .val (.int bo), .val (.int bn), .val (.int be), .val (.ref b1), .val (.ref b4), .unset, .unset, .unset, .unset, .unset, .unset, .unset, .unset, .unset, .unset] [(.ref b36), (.ref b36)])) _
        refine XS.iconst X36.here hx rfl (hb hby at_129) ?_
        show Steps p.tables e below (T36.setTop (mkF m 130 #[.val (.int p1), .val (.int p2), .val (.int p3), .val (.int p4), .val (.int p5), .val (.int bo), .val (.int bn), .val (.int be), .val (.ref b1), .val (.ref b4), .unset, .unset, .unset, .unset, .unset, .unset, .unset, .unset, .unset, .unset] [(.int (0 : Int32)), (.ref b36), (.ref b36)])) _
        exact k
      obtain ⟨T37, h37, k37, X37, e37, E37, A37, G37, st37⟩ := newPE X36 hx hZ (hw _ (List.mem_of_getElem? (i := 0) rfl)) e36 (g := (mkF m 130 #[.val (.int p1), .val (.int p2), .val (.int p3), .val (.int p4), .val (.int p5), .val (.int bo), .val (.int bn), .val (.int be), .val (.ref b1), .val (.ref b4), .unset, .unset, .unset, .unset, .unset, .unset, .unset, .unset, .unset, .unset] [(.int (0 : Int32)), (.ref b36), (.ref b36)])) rfl (hb hby at_130) rfl (by decide) (cap := 0) (by decide) (by decide) (by decide) (by decide) (ad := "[C") (by decide)
      obtain ⟨b37, g37⟩ : ∃ z, z = h36.size := ⟨_, rfl⟩
      rw [← g37] at A37 G37 st37
      have lt_b1_b37 : b1 < b37 := Nat.lt_of_lt_of_le G1.lt (Nat.le_of_eq g37.symm)
      have lt_b4_b37 : b4 < b37 := Nat.lt_of_lt_of_le G4.lt (Nat.le_of_eq g37.symm)
      have lt_b36_b37 : b36 < b37 := Nat.lt_of_lt_of_le A36.lt (Nat.le_of_eq g37.symm)
      have g_b37 : n0 ≤ b37 := Nat.le_trans (own_oldsz O) (Nat.le_of_eq g37.symm)
      have m_b37_37 : h0.size ≤ b37 := Nat.le_trans KM.1 (Nat.le_of_eq g37.symm)
      replace G1 := G1.ext E37
      replace V3 := V3.ext E37
      replace G4 := G4.ext E37
      replace V7 := V7.ext E37
      replace A36 := A36.ext E37
      replace F36_coder := F36_coder.ext E37
      replace F36_value := F36_value.ext E37
      replace O := O.ext E37
      replace hk := Nat.le_trans hk E37.1
      replace KM := KM.ext E37
      have V37 : Arv Z h37 b37 k37 .char (0 : Int32) [] (.int (0 : Int32)) := (Arv.new A37 (by decide)).pad (pad_rep [] (.int (0 : Int32)) 0)
      refine own_go (B := T37.setTop (mkF m 132 #[.val (.int p1), .val (.int p2), .val (.int p3), .val (.int p4), .val (.int p5), .val (.int bo), .val (.int bn), .val (.int be), .val (.ref b1), .val (.ref b4), .unset, .unset, .unset, .unset, .unset, .unset, .unset, .unset, .unset, .unset] [(.ref b37), (.ref b36), (.ref b36)])) st37 ?_
      -- pc 132: java/lang/String.<init>
      obtain ⟨_, _, ⟨T38, L38, k38, n38⟩, -, X38, hSq38, hgq38, ⟨Lc38, hQ38, l38, y38, z38⟩, st38⟩ := X37.specialBackS hx (y := (⟨"java/lang/String", "<init>", "([C)V"⟩ : MethodName)) rfl hown (mvT hZ (hw _ (List.mem_of_getElem? (i := 4) rfl))) (mvT hZ (hw _ (List.mem_of_getElem? (i := 5) rfl))) (mvT hZ (hw _ (List.mem_of_getElem? (i := 6) rfl))) (by decide) (own_backOfE (W := 1) (rmSE1 l Z a0 hw [] b36 b37 k37 ([]) (.int (0 : Int32)) h37 n0 O A36 F36_value F36_coder g_b36 V37 hcH hcw) hZ (hw _ (List.mem_of_getElem? (i := 6) rfl)) (hw _ (List.mem_of_getElem? (i := 3) rfl)) (by decide) (by decide)) (g := (mkF m 132 #[.val (.int p1), .val (.int p2), .val (.int p3), .val (.int p4), .val (.int p5), .val (.int bo), .val (.int bn), .val (.int be), .val (.ref b1), .val (.ref b4), .unset, .unset, .unset, .unset, .unset, .unset, .unset, .unset, .unset, .unset] [(.ref b37), (.ref b36), (.ref b36)])) rfl (by rw [hml]; rfl) (Steps.refl _) (a := b36) (argsL := [(.ref b37)]) (rest := [(.ref b36)]) (lenOf pd_4 rfl) rfl (by show 2 * 0 + _ ≤ _; exact Nat.le_of_eq rfl) (hb hby at_132) (fun _ hWm => ⟨rfl, e37, (by decide : 4 + 2 ≤ _), (by decide : 9 + 4 ≤ _), Em.warm (M.keep KM) hWm⟩)
      dsimp only [Pt.U, Pt.locs, Pt.cells, Pt.slots] at X38 l38 y38 z38 st38 hQ38 hSq38 hgq38
      subst l38 y38 z38
      obtain ⟨X38, hS, hZ, hown⟩ := rebS hS (by rw [e37]; exact hk) X38 hSq38 hgq38 hZ hown
      obtain ⟨⟨t38, k38, rfl, Nq38, Kq38, Gq38_0, Gq38_1, Gq38_2⟩, M⟩ := hQ38
      replace N := Fr.app N Nq38
      replace G1 := G1.keep Kq38
      replace V3 := V3.keep Kq38 (ninS (Nat.ne_of_lt lt_b1_b36) nin0)
      replace G4 := G4.keep Kq38
      replace V7 := V7.keep Kq38 (ninS (Nat.ne_of_lt lt_b4_b36) nin0)
      replace A36 := A36.keep Kq38
      clear F36_coder
      clear F36_value
      replace G37 := G37.keep Kq38
      replace V37 := V37.keep Kq38 (ninS (Nat.ne_of_gt lt_b36_b37) nin0)
      replace O := O.keep Kq38 (allS g_b36 all0)
      have hk : T38.heap.size ≤ T38.heap.size := Nat.le_refl _
      have KM : Keep T38.heap T38.heap [] := Keep.refl _ _
      refine own_go (B := T38.setTop (mkF m 135 #[.val (.int p1), .val (.int p2), .val (.int p3), .val (.int p4), .val (.int p5), .val (.int bo), .val (.int bn), .val (.int be), .val (.ref b1), .val (.ref b4), .unset, .unset, .unset, .unset, .unset, .unset, .unset, .unset, .unset, .unset] [(.ref b36)])) (fun t k => st38.trans k) ?_
      refine own_go (B := T38.setTop (mkF m 149 #[.val (.int p1), .val (.int p2), .val (.int p3), .val (.int p4), .val (.int p5), .val (.int bo), .val (.int bn), .val (.int be), .val (.ref b1), .val (.ref b4), .val (.ref b36), .unset, .unset, .unset, .unset, .unset, .unset, .unset, .unset, .unset] [])) (fun t k => ?_) ?_
      · show Steps p.tables e below (T38.setTop (mkF m 135 #[.val (.int p1), .val (.int p2), .val (.int p3), .val (.int p4), .val (.int p5), .val (.int bo), .val (.int bn), .val (.int be), .val (.ref b1), .val (.ref b4), .unset, .unset, .unset, .unset, .unset, .unset, .unset, .unset, .unset, .unset] [(.ref b36)])) _
        refine XS.goto X38.here hx rfl (pc0 := 135) (pc' := 147) rfl (hb hby at_135) (by decide) (by decide) ?_
        show Steps p.tables e below (T38.setTop (mkF m 147 #[.val (.int p1), .val (.int p2), .val (.int p3), .val (.int p4), .val (.int p5), .val (.int bo), .val (.int bn), .val (.int be), .val (.ref b1), .val (.ref b4), .unset, .unset, .unset, .unset, .unset, .unset, .unset, .unset, .unset, .unset] [(.ref b36)])) _
        refine XS.astore X38.here hx rfl (hb hby at_147) rfl rfl (l' := #[.val (.int p1), .val (.int p2), .val (.int p3), .val (.int p4), .val (.int p5), .val (.int bo), .val (.int bn), .val (.int be), .val (.ref b1), .val (.ref b4), .val (.ref b36), .unset, .unset, .unset, .unset, .unset, .unset, .unset, .unset, .unset]) rfl ?_
        show Steps p.tables e below (T38.setTop (mkF m 149 #[.val (.int p1), .val (.int p2), .val (.int p3), .val (.int p4), .val (.int p5), .val (.int bo), .val (.int bn), .val (.int be), .val (.ref b1), .val (.ref b4), .val (.ref b36), .unset, .unset, .unset, .unset, .unset, .unset, .unset, .unset, .unset] [])) _
        exact k
      clear V3 V37 Gq38_0 Gq38_1 Gq38_2
      obtain ⟨T39, h39, X39, e39, E39, A39, D39, -, st39⟩ := newO X38 hx hZ hown (hw _ (List.mem_of_getElem? (i := 1) rfl)) (hw _ (List.mem_of_getElem? (i := 2) rfl)) (hw _ (List.mem_of_getElem? (i := 3) rfl)) rfl (g := (mkF m 149 #[.val (.int p1), .val (.int p2), .val (.int p3), .val (.int p4), .val (.int p5), .val (.int bo), .val (.int bn), .val (.int be), .val (.ref b1), .val (.ref b4), .val (.ref b36), .unset, .unset, .unset, .unset, .unset, .unset, .unset, .unset, .unset] [])) rfl (hb hby at_149) (by decide) (by decide)
      obtain ⟨b39, g39⟩ : ∃ z, z = T38.heap.size := ⟨_, rfl⟩
      rw [← g39] at A39 D39 st39
      have lt_b1_b39 : b1 < b39 := Nat.lt_of_lt_of_le G1.lt (Nat.le_of_eq g39.symm)
      have lt_b4_b39 : b4 < b39 := Nat.lt_of_lt_of_le G4.lt (Nat.le_of_eq g39.symm)
      have lt_b36_b39 : b36 < b39 := Nat.lt_of_lt_of_le A36.lt (Nat.le_of_eq g39.symm)
      have lt_b37_b39 : b37 < b39 := Nat.lt_of_lt_of_le G37.lt (Nat.le_of_eq g39.symm)
      have g_b39 : n0 ≤ b39 := Nat.le_trans (own_oldsz O) (Nat.le_of_eq g39.symm)
      have m_b39_39 : T38.heap.size ≤ b39 := Nat.le_trans KM.1 (Nat.le_of_eq g39.symm)
      replace G1 := G1.ext E39
      replace G4 := G4.ext E39
      replace V7 := V7.ext E39
      replace A36 := A36.ext E39
      replace G37 := G37.ext E39
      replace O := O.ext E39
      replace hk := Nat.le_trans hk E39.1
      replace KM := KM.ext E39
      have F39_coder : Fld Z h39 b39 "java/lang/String" "coder" "B" (.int (0 : Int32)) := D39 (Or.inr (hw _ (List.mem_of_getElem? (i := 27) rfl))) (ty := .byte) (by decide)
      have F39_value : Fld Z h39 b39 "java/lang/String" "value" "[B" .null := D39 (Or.inr (hw _ (List.mem_of_getElem? (i := 29) rfl))) (ty := (.array .byte)) (by decide)
      refine own_go (B := T39.setTop (mkF m 152 #[.val (.int p1), .val (.int p2), .val (.int p3), .val (.int p4), .val (.int p5), .val (.int bo), .val (.int bn), .val (.int be), .val (.ref b1), .val (.ref b4), .val (.ref b36), .unset, .unset, .unset, .unset, .unset, .unset, .unset, .unset, .unset] [(.ref b39)])) st39 ?_
      refine own_go (B := T39.setTop (mkF m 155 #[.val (.int p1), .val (.int p2), .val (.int p3), .val (.int p4), .val (.int p5), .val (.int bo), .val (.int bn), .val (.int be), .val (.ref b1), .val (.ref b4), .val (.ref b36), .unset, .unset, .unset, .unset, .unset, .unset, .unset, .unset, .unset] [(.ref b4), (.ref b39), (.ref b39)])) (fun t k => ?_) ?_
      · show Steps p.tables e below (T39.setTop (mkF m 152 #[.val (.int p1), .val (.int p2), .val (.int p3), .val (.int p4), .val (.int p5), .val (.int bo), .val (.int bn), .val (.int be), .val (.ref b1), .val (.ref b4), .val (.ref b36), .unset, .unset, .unset, .unset, .unset, .unset, .unset, .unset, .unset] [(.ref b39)])) _
        refine XS.dup X39.here hx rfl (hb hby at_152) rfl rfl ?_
        show Steps p.tables e below (T39.setTop (mkF m 153 #[.val (.int p1), .val (.int p2), .val (.int p3), .val (.int p4), .val (.int p5), .val (.int bo), .val (.int bn), .val (.int be), .val (.ref b1), .val (.ref b4), .val (.ref b36), .unset, .unset, .unset, .unset, .unset, .unset, .unset, .unset, .unset] [(.ref b39), (.ref b39)])) _
        refine XS.aload X39.here hx rfl (hb hby at_153) rfl rfl ?_
        show Steps p.tables e below (T39.setTop (mkF m 155 #[.val (.int p1), .val (.int p2), .val (.int p3), .val (.int p4), .val (.int p5), .val (.int bo), .val (.int bn), .val (.int be), .val (.ref b1), .val (.ref b4), .val (.ref b36), .unset, .unset, .unset, .unset, .unset, .unset, .unset, .unset, .unset] [(.ref b4), (.ref b39), (.ref b39)])) _
        exact k
      have := bc2
      have := bc3
      have := bc4
      have hws : ∀ d ∈ StrChars.Road.words, d.before a0 Z = true := fun d hd => hw d ((by decide +kernel : ∀ d ∈ StrChars.Road.words, d ∈ tables_1) d hd)
      -- pc 155: java/lang/String.<init>
      obtain ⟨_, _, ⟨T40, L40, k40, n40⟩, -, X40, ⟨Lc40, hQ40, l40, y40, z40⟩, st40⟩ := X39.specialBack hx (y := (⟨"java/lang/String", "<init>", "([C)V"⟩ : MethodName)) rfl hown (mvT hZ (hw _ (List.mem_of_getElem? (i := 4) rfl))) (mvT hZ (hw _ (List.mem_of_getElem? (i := 5) rfl))) (mvT hZ (hw _ (List.mem_of_getElem? (i := 6) rfl))) (by decide) (StrChars.Road.backV (W := 1) hZ hws (kI := 4) (hw _ (List.mem_of_getElem? (i := 2) rfl)) (cs := ([c2, c3, c4] : List Int32)) (bs := ([c2, c3, c4] : List Int32).map (fun c => c.toInt8.toInt32)) (n := 3) g_b39 (own_oldsz O) A39 F39_value F39_coder V7 (S_C.ext O.2) hcs rfl rfl (by decide) (by decide) (by intro c hc; simp only [List.mem_cons, List.not_mem_nil, or_false] at hc; rcases hc with rfl | rfl | rfl <;> assumption) rfl (by decide) (by decide)) (g := (mkF m 155 #[.val (.int p1), .val (.int p2), .val (.int p3), .val (.int p4), .val (.int p5), .val (.int bo), .val (.int bn), .val (.int be), .val (.ref b1), .val (.ref b4), .val (.ref b36), .unset, .unset, .unset, .unset, .unset, .unset, .unset, .unset, .unset] [(.ref b4), (.ref b39), (.ref b39)])) rfl (by rw [hml]; rfl) (Steps.refl _) (a := b39) (argsL := [(.ref b4)]) (rest := [(.ref b39)]) (lenOf pd_4 rfl) rfl (by show 2 * 0 + _ ≤ _; exact Nat.le_of_eq rfl) (hb hby at_155) (fun _ hWm => ⟨rfl, e39, (by decide : 7 + 1 ≤ _), (by decide : 17 + 3 ≤ _)⟩)
      dsimp only [Pt.U, Pt.locs, Pt.cells, Pt.slots] at X40 l40 y40 z40 st40 hQ40
      subst l40 y40 z40
      obtain ⟨rfl, Nq40, Kq40, Gq40_0, Gq40_1, t40, kb40, u40, fq40, nq40, Gq40_2, Gq40_3⟩ := hQ40
      replace N := Fr.app N Nq40
      have lt_b1_t40 : b1 < t40 := Nat.lt_of_lt_of_le G1.lt fq40
      have lt_b4_t40 : b4 < t40 := Nat.lt_of_lt_of_le G4.lt fq40
      have lt_b36_t40 : b36 < t40 := Nat.lt_of_lt_of_le A36.lt fq40
      have lt_b37_t40 : b37 < t40 := Nat.lt_of_lt_of_le G37.lt fq40
      have lt_b39_t40 : b39 < t40 := Nat.lt_of_lt_of_le A39.lt fq40
      have g_t40 : n0 ≤ t40 := Nat.le_trans (own_oldsz O) fq40
      have m_t40_40 : T38.heap.size ≤ t40 := Nat.le_trans KM.1 fq40
      replace G1 := G1.keep Kq40
      replace G4 := G4.keep Kq40
      replace V7 := V7.keep Kq40 (ninS (Nat.ne_of_lt lt_b4_b39) nin0)
      replace A36 := A36.keep Kq40
      replace G37 := G37.keep Kq40
      replace A39 := A39.keep Kq40
      clear F39_coder
      clear F39_value
      replace O := O.keep Kq40 (allS g_b39 all0)
      replace hk := Nat.le_trans hk Kq40.1
      replace KM := KM.trans Kq40 (allS (Or.inr m_b39_39) all0)
      refine own_go (B := T40.setTop (mkF m 158 #[.val (.int p1), .val (.int p2), .val (.int p3), .val (.int p4), .val (.int p5), .val (.int bo), .val (.int bn), .val (.int be), .val (.ref b1), .val (.ref b4), .val (.ref b36), .unset, .unset, .unset, .unset, .unset, .unset, .unset, .unset, .unset] [(.ref b39)])) (fun t k => st40.trans k) ?_
      refine own_go (B := T40.setTop (mkF m 160 #[.val (.int p1), .val (.int p2), .val (.int p3), .val (.int p4), .val (.int p5), .val (.int bo), .val (.int bn), .val (.int be), .val (.ref b1), .val (.ref b4), .val (.ref b36), .val (.ref b39), .unset, .unset, .unset, .unset, .unset, .unset, .unset, .unset] [])) (fun t k => ?_) ?_
      · show Steps p.tables e below (T40.setTop (mkF m 158 #[.val (.int p1), .val (.int p2), .val (.int p3), .val (.int p4), .val (.int p5), .val (.int bo), .val (.int bn), .val (.int be), .val (.ref b1), .val (.ref b4), .val (.ref b36), .unset, .unset, .unset, .unset, .unset, .unset, .unset, .unset, .unset] [(.ref b39)])) _
        refine XS.astore X40.here hx rfl (hb hby at_158) rfl rfl (l' := #[.val (.int p1), .val (.int p2), .val (.int p3), .val (.int p4), .val (.int p5), .val (.int bo), .val (.int bn), .val (.int be), .val (.ref b1), .val (.ref b4), .val (.ref b36), .val (.ref b39), .unset, .unset, .unset, .unset, .unset, .unset, .unset, .unset]) rfl ?_
        show Steps p.tables e below (T40.setTop (mkF m 160 #[.val (.int p1), .val (.int p2), .val (.int p3), .val (.int p4), .val (.int p5), .val (.int bo), .val (.int bn), .val (.int be), .val (.ref b1), .val (.ref b4), .val (.ref b36), .val (.ref b39), .unset, .unset, .unset, .unset, .unset, .unset, .unset, .unset] [])) _
        exact k
      clear V7 Gq40_1 Gq40_2 Gq40_3
      refine own_go (B := T40.setTop (mkF m 162 #[.val (.int p1), .val (.int p2), .val (.int p3), .val (.int p4), .val (.int p5), .val (.int bo), .val (.int bn), .val (.int be), .val (.ref b1), .val (.ref b4), .val (.ref b36), .val (.ref b39), .unset, .unset, .unset, .unset, .unset, .unset, .unset, .unset] [(.int bo)])) (fun t k => ?_) ?_
      · show Steps p.tables e below (T40.setTop (mkF m 160 #[.val (.int p1), .val (.int p2), .val (.int p3), .val (.int p4), .val (.int p5), .val (.int bo), .val (.int bn), .val (.int be), .val (.ref b1), .val (.ref b4), .val (.ref b36), .val (.ref b39), .unset, .unset, .unset, .unset, .unset, .unset, .unset, .unset] [])) _
        refine XS.iload X40.here hx rfl (hb hby at_160) rfl ?_
        show Steps p.tables e below (T40.setTop (mkF m 162 #[.val (.int p1), .val (.int p2), .val (.int p3), .val (.int p4), .val (.int p5), .val (.int bo), .val (.int bn), .val (.int be), .val (.ref b1), .val (.ref b4), .val (.ref b36), .val (.ref b39), .unset, .unset, .unset, .unset, .unset, .unset, .unset, .unset] [(.int bo)])) _
        exact k
      by_cases ko : bo = (0 : Int32)
      · refine own_go (B := T40.setTop (mkF m 182 #[.val (.int p1), .val (.int p2), .val (.int p3), .val (.int p4), .val (.int p5), .val (.int bo), .val (.int bn), .val (.int be), .val (.ref b1), .val (.ref b4), .val (.ref b36), .val (.ref b39), .val .null, .unset, .unset, .unset, .unset, .unset, .unset, .unset] [])) (fun t k => ?_) ?_
        · show Steps p.tables e below (T40.setTop (mkF m 162 #[.val (.int p1), .val (.int p2), .val (.int p3), .val (.int p4), .val (.int p5), .val (.int bo), .val (.int bn), .val (.int be), .val (.ref b1), .val (.ref b4), .val (.ref b36), .val (.ref b39), .unset, .unset, .unset, .unset, .unset, .unset, .unset, .unset] [(.int bo)])) _
          refine XS.ifYes X40.here hx rfl (pc0 := 162) (pc' := 179) rfl (hb hby at_162) rfl ((if0 _ _).trans (teq ko).1) (by decide) (by decide) ?_
          show Steps p.tables e below (T40.setTop (mkF m 179 #[.val (.int p1), .val (.int p2), .val (.int p3), .val (.int p4), .val (.int p5), .val (.int bo), .val (.int bn), .val (.int be), .val (.ref b1), .val (.ref b4), .val (.ref b36), .val (.ref b39), .unset, .unset, .unset, .unset, .unset, .unset, .unset, .unset] [])) _
          refine XS.aconstNull X40.here hx rfl (hb hby at_179) ?_
          show Steps p.tables e below (T40.setTop (mkF m 180 #[.val (.int p1), .val (.int p2), .val (.int p3), .val (.int p4), .val (.int p5), .val (.int bo), .val (.int bn), .val (.int be), .val (.ref b1), .val (.ref b4), .val (.ref b36), .val (.ref b39), .unset, .unset, .unset, .unset, .unset, .unset, .unset, .unset] [.null])) _
          refine XS.astore X40.here hx rfl (hb hby at_180) rfl rfl (l' := #[.val (.int p1), .val (.int p2), .val (.int p3), .val (.int p4), .val (.int p5), .val (.int bo), .val (.int bn), .val (.int be), .val (.ref b1), .val (.ref b4), .val (.ref b36), .val (.ref b39), .val .null, .unset, .unset, .unset, .unset, .unset, .unset, .unset]) rfl ?_
          show Steps p.tables e below (T40.setTop (mkF m 182 #[.val (.int p1), .val (.int p2), .val (.int p3), .val (.int p4), .val (.int p5), .val (.int bo), .val (.int bn), .val (.int be), .val (.ref b1), .val (.ref b4), .val (.ref b36), .val (.ref b39), .val .null, .unset, .unset, .unset, .unset, .unset, .unset, .unset] [])) _
          exact k
        obtain ⟨T41, h41, X41, e41, E41, A41, D41, -, st41⟩ := newO X40 hx hZ hown (hw _ (List.mem_of_getElem? (i := 30) rfl)) (hw _ (List.mem_of_getElem? (i := 31) rfl)) (hw _ (List.mem_of_getElem? (i := 32) rfl)) rfl (g := (mkF m 182 #[.val (.int p1), .val (.int p2), .val (.int p3), .val (.int p4), .val (.int p5), .val (.int bo), .val (.int bn), .val (.int be), .val (.ref b1), .val (.ref b4), .val (.ref b36), .val (.ref b39), .val .null, .unset, .unset, .unset, .unset, .unset, .unset, .unset] [])) rfl (hb hby at_182) (by decide) (by decide)
        obtain ⟨b41, g41⟩ : ∃ z, z = T40.heap.size := ⟨_, rfl⟩
        rw [← g41] at A41 D41 st41
        have lt_b1_b41 : b1 < b41 := Nat.lt_of_lt_of_le G1.lt (Nat.le_of_eq g41.symm)
        have lt_b4_b41 : b4 < b41 := Nat.lt_of_lt_of_le G4.lt (Nat.le_of_eq g41.symm)
        have lt_b36_b41 : b36 < b41 := Nat.lt_of_lt_of_le A36.lt (Nat.le_of_eq g41.symm)
        have lt_b37_b41 : b37 < b41 := Nat.lt_of_lt_of_le G37.lt (Nat.le_of_eq g41.symm)
        have lt_b39_b41 : b39 < b41 := Nat.lt_of_lt_of_le Gq40_0.lt (Nat.le_of_eq g41.symm)
        have g_b41 : n0 ≤ b41 := Nat.le_trans (own_oldsz O) (Nat.le_of_eq g41.symm)
        have m_b41_41 : T38.heap.size ≤ b41 := Nat.le_trans KM.1 (Nat.le_of_eq g41.symm)
        replace G1 := G1.ext E41
        replace G4 := G4.ext E41
        replace A36 := A36.ext E41
        replace G37 := G37.ext E41
        replace Gq40_0 := Gq40_0.ext E41
        replace O := O.ext E41
        replace hk := Nat.le_trans hk E41.1
        replace KM := KM.ext E41
        have F41_text : Fld Z h41 b41 "com/example/fieldloom/fieldloom/mapping/Value" "text" "Ljava/lang/String;" .null := D41 (Or.inr (hw _ (List.mem_of_getElem? (i := 43) rfl))) (ty := (.object "java/lang/String")) (by decide)
        have F41_occurrence : Fld Z h41 b41 "com/example/fieldloom/fieldloom/mapping/Value" "occurrence" "Lcom/example/fieldloom/fieldloom/mapping/FieldOccurrence;" .null := D41 (Or.inr (hw _ (List.mem_of_getElem? (i := 45) rfl))) (ty := (.object "com/example/fieldloom/fieldloom/mapping/FieldOccurrence")) (by decide)
        have F41_position : Fld Z h41 b41 "com/example/fieldloom/fieldloom/mapping/Value" "position" "I" (.int (0 : Int32)) := D41 (Or.inr (hw _ (List.mem_of_getElem? (i := 47) rfl))) (ty := .int) (by decide)
        refine own_go (B := T41.setTop (mkF m 185 #[.val (.int p1), .val (.int p2), .val (.int p3), .val (.int p4), .val (.int p5), .val (.int bo), .val (.int bn), .val (.int be), .val (.ref b1), .val (.ref b4), .val (.ref b36), .val (.ref b39), .val .null, .unset, .unset, .unset, .unset, .unset, .unset, .unset] [(.ref b41)])) st41 ?_
        refine own_go (B := T41.setTop (mkF m 191 #[.val (.int p1), .val (.int p2), .val (.int p3), .val (.int p4), .val (.int p5), .val (.int bo), .val (.int bn), .val (.int be), .val (.ref b1), .val (.ref b4), .val (.ref b36), .val (.ref b39), .val .null, .unset, .unset, .unset, .unset, .unset, .unset, .unset] [(.int p3), .null, (.ref b39), (.ref b41), (.ref b41)])) (fun t k => ?_) ?_
        · show Steps p.tables e below (T41.setTop (mkF m 185 #[.val (.int p1), .val (.int p2), .val (.int p3), .val (.int p4), .val (.int p5), .val (.int bo), .val (.int bn), .val (.int be), .val (.ref b1), .val (.ref b4), .val (.ref b36), .val (.ref b39), .val .null, .unset, .unset, .unset, .unset, .unset, .unset, .unset] [(.ref b41)])) _
          refine XS.dup X41.here hx rfl (hb hby at_185) rfl rfl ?_
          show Steps p.tables e below (T41.setTop (mkF m 186 #[.val (.int p1), .val (.int p2), .val (.int p3), .val (.int p4), .val (.int p5), .val (.int bo), .val (.int bn), .val (.int be), .val (.ref b1), .val (.ref b4), .val (.ref b36), .val (.ref b39), .val .null, .unset, .unset, .unset, .unset, .unset, .unset, .unset] [(.ref b41), (.ref b41)])) _
          refine XS.aload X41.here hx rfl (hb hby at_186) rfl rfl ?_
          show Steps p.tables e below (T41.setTop (mkF m 188 #[.val (.int p1), .val (.int p2), .val (.int p3), .val (.int p4), .val (.int p5), .val (.int bo), .val (.int bn), .val (.int be), .val (.ref b1), .val (.ref b4), .val (.ref b36), .val (.ref b39), .val .null, .unset, .unset, .unset, .unset, .unset, .unset, .unset] [(.ref b39), (.ref b41), (.ref b41)])) _
          refine XS.aload X41.here hx rfl (hb hby at_188) rfl rfl ?_
          show Steps p.tables e below (T41.setTop (mkF m 190 #[.val (.int p1), .val (.int p2), .val (.int p3), .val (.int p4), .val (.int p5), .val (.int bo), .val (.int bn), .val (.int be), .val (.ref b1), .val (.ref b4), .val (.ref b36), .val (.ref b39), .val .null, .unset, .unset, .unset, .unset, .unset, .unset, .unset] [.null, (.ref b39), (.ref b41), (.ref b41)])) _
          refine XS.iloadN X41.here hx rfl (hb hby at_190) rfl ?_
          show Steps p.tables e below (T41.setTop (mkF m 191 #[.val (.int p1), .val (.int p2), .val (.int p3), .val (.int p4), .val (.int p5), .val (.int bo), .val (.int bn), .val (.int be), .val (.ref b1), .val (.ref b4), .val (.ref b36), .val (.ref b39), .val .null, .unset, .unset, .unset, .unset, .unset, .unset, .unset] [(.int p3), .null, (.ref b39), (.ref b41), (.ref b41)])) _
          exact k
        -- pc 191: com/example/fieldloom/fieldloom/mapping/Value.<init>
        obtain ⟨_, _, ⟨T42, L42, k42, n42⟩, -, X42, ⟨Lc42, hQ42, l42, y42, z42⟩, st42⟩ := X41.specialBack hx (y := (⟨"com/example/fieldloom/fieldloom/mapping/Value", "<init>", "(Ljava/lang/String;Lcom/example/fieldloom/fieldloom/mapping/FieldOccurrence;I)V"⟩ : MethodName)) rfl hown (mvT hZ (hw _ (List.mem_of_getElem? (i := 33) rfl))) (mvT hZ (hw _ (List.mem_of_getElem? (i := 34) rfl))) (mvT hZ (hw _ (List.mem_of_getElem? (i := 35) rfl))) (by decide) (backOf (W := 1) (rmV3 l Z a0 hw [] b41 (.ref b39) (.null) p3 h41 n0 O A41 F41_text F41_occurrence F41_position g_b41 rfl rfl) hZ (hw _ (List.mem_of_getElem? (i := 35) rfl)) (hw _ (List.mem_of_getElem? (i := 32) rfl)) (by decide) (by decide)) (g := (mkF m 191 #[.val (.int p1), .val (.int p2), .val (.int p3), .val (.int p4), .val (.int p5), .val (.int bo), .val (.int bn), .val (.int be), .val (.ref b1), .val (.ref b4), .val (.ref b36), .val (.ref b39), .val .null, .unset, .unset, .unset, .unset, .unset, .unset, .unset] [(.int p3), .null, (.ref b39), (.ref b41), (.ref b41)])) rfl (by rw [hml]; rfl) (Steps.refl _) (a := b41) (argsL := [(.ref b39), .null, (.int p3)]) (rest := [(.ref b41)]) (lenOf pd_2 rfl) rfl (by show 2 * 0 + _ ≤ _; exact Nat.le_of_eq rfl) (hb hby at_191) (fun _ hWm => ⟨rfl, e41, (by decide : 9 + 0 ≤ _), (by decide : 23 + 0 ≤ _)⟩)
        dsimp only [Pt.U, Pt.locs, Pt.cells, Pt.slots] at X42 l42 y42 z42 st42 hQ42
        subst l42 y42 z42
        obtain ⟨rfl, Nq42, Kq42, Gq42_0, Gq42_1, Gq42_2⟩ := hQ42
        replace N := Fr.app N Nq42
        replace G1 := G1.keep Kq42
        replace G4 := G4.keep Kq42
        replace A36 := A36.keep Kq42
        replace G37 := G37.keep Kq42
        replace Gq40_0 := Gq40_0.keep Kq42
        replace A41 := A41.keep Kq42
        clear F41_text
        clear F41_occurrence
        clear F41_position
        replace O := O.keep Kq42 (allS g_b41 all0)
        replace hk := Nat.le_trans hk Kq42.1
        replace KM := KM.trans Kq42 (allS (Or.inr m_b41_41) all0)
        refine own_go (B := T42.setTop (mkF m 194 #[.val (.int p1), .val (.int p2), .val (.int p3), .val (.int p4), .val (.int p5), .val (.int bo), .val (.int bn), .val (.int be), .val (.ref b1), .val (.ref b4), .val (.ref b36), .val (.ref b39), .val .null, .unset, .unset, .unset, .unset, .unset, .unset, .unset] [(.ref b41)])) (fun t k => st42.trans k) ?_
        refine own_go (B := T42.setTop (mkF m 200 #[.val (.int p1), .val (.int p2), .val (.int p3), .val (.int p4), .val (.int p5), .val (.int bo), .val (.int bn), .val (.int be), .val (.ref b1), .val (.ref b4), .val (.ref b36), .val (.ref b39), .val .null, .val (.ref b41), .unset, .unset, .unset, .unset, .unset, .unset] [(.ref b36), (.ref b41)])) (fun t k => ?_) ?_
        · show Steps p.tables e below (T42.setTop (mkF m 194 #[.val (.int p1), .val (.int p2), .val (.int p3), .val (.int p4), .val (.int p5), .val (.int bo), .val (.int bn), .val (.int be), .val (.ref b1), .val (.ref b4), .val (.ref b36), .val (.ref b39), .val .null, .unset, .unset, .unset, .unset, .unset, .unset, .unset] [(.ref b41)])) _
          refine XS.astore X42.here hx rfl (hb hby at_194) rfl rfl (l' := #[.val (.int p1), .val (.int p2), .val (.int p3), .val (.int p4), .val (.int p5), .val (.int bo), .val (.int bn), .val (.int be), .val (.ref b1), .val (.ref b4), .val (.ref b36), .val (.ref b39), .val .null, .val (.ref b41), .unset, .unset, .unset, .unset, .unset, .unset]) rfl ?_
          show Steps p.tables e below (T42.setTop (mkF m 196 #[.val (.int p1), .val (.int p2), .val (.int p3), .val (.int p4), .val (.int p5), .val (.int bo), .val (.int bn), .val (.int be), .val (.ref b1), .val (.ref b4), .val (.ref b36), .val (.ref b39), .val .null, .val (.ref b41), .unset, .unset, .unset, .unset, .unset, .unset] [])) _
          refine XS.aload X42.here hx rfl (hb hby at_196) rfl rfl ?_
          show Steps p.tables e below (T42.setTop (mkF m 198 #[.val (.int p1), .val (.int p2), .val (.int p3), .val (.int p4), .val (.int p5), .val (.int bo), .val (.int bn), .val (.int be), .val (.ref b1), .val (.ref b4), .val (.ref b36), .val (.ref b39), .val .null, .val (.ref b41), .unset, .unset, .unset, .unset, .unset, .unset] [(.ref b41)])) _
          refine XS.aload X42.here hx rfl (hb hby at_198) rfl rfl ?_
          show Steps p.tables e below (T42.setTop (mkF m 200 #[.val (.int p1), .val (.int p2), .val (.int p3), .val (.int p4), .val (.int p5), .val (.int bo), .val (.int bn), .val (.int be), .val (.ref b1), .val (.ref b4), .val (.ref b36), .val (.ref b39), .val .null, .val (.ref b41), .unset, .unset, .unset, .unset, .unset, .unset] [(.ref b36), (.ref b41)])) _
          exact k
        -- pc 200: com/example/fieldloom/fieldloom/mapping/Value.withText
        obtain ⟨cq43, kq43, q43a, q43b, q43c⟩ := isOf hZ rfl A41
        obtain ⟨_, _, ⟨T43, L43, k43, n43⟩, -, X43, ⟨Lc43, hQ43, l43, y43, z43⟩, st43⟩ := X42.virtualBack hx (y := (⟨"com/example/fieldloom/fieldloom/mapping/Value", "withText", "(Ljava/lang/String;)Lcom/example/fieldloom/fieldloom/mapping/Value;"⟩ : MethodName)) (z := (⟨"com/example/fieldloom/fieldloom/mapping/Value", "withText", "(Ljava/lang/String;)Lcom/example/fieldloom/fieldloom/mapping/Value;"⟩ : MethodName)) hown (mvT hZ (hw _ (List.mem_of_getElem? (i := 48) rfl))) (mvT hZ (hw _ (List.mem_of_getElem? (i := 49) rfl))) (notFace_of_selects (args := #[]) (mvT hZ (hw _ (List.mem_of_getElem? (i := 51) rfl)))) (mvT hZ (hw _ (List.mem_of_getElem? (i := 51) rfl))) (mvT hZ (hw _ (List.mem_of_getElem? (i := 50) rfl))) (by decide) (backOf (W := 0) (rmWT l Z a0 hw [] b41 (.ref b36) (.null) T42.heap n0 O Gq42_1 rfl rfl) hZ (hw _ (List.mem_of_getElem? (i := 52) rfl)) (hw _ (List.mem_of_getElem? (i := 32) rfl)) (by decide) (by decide)) q43a q43c (g := (mkF m 200 #[.val (.int p1), .val (.int p2), .val (.int p3), .val (.int p4), .val (.int p5), .val (.int bo), .val (.int bn), .val (.int be), .val (.ref b1), .val (.ref b4), .val (.ref b36), .val (.ref b39), .val .null, .val (.ref b41), .unset, .unset, .unset, .unset, .unset, .unset] [(.ref b36), (.ref b41)])) rfl (by rw [hml]; rfl) (Steps.refl _) (argsL := [(.ref b36)]) (rest := []) (lenOf pd_5 rfl) rfl (by show 2 * 0 + _ ≤ _; exact Nat.le_of_eq rfl) (hb hby at_200) (fun _ hWm => ⟨rfl, rfl, (by decide : 9 + 1 ≤ _), (by decide : 23 + 3 ≤ _)⟩)
        dsimp only [Pt.U, Pt.locs, Pt.cells, Pt.slots] at X43 l43 y43 z43 st43 hQ43
        subst l43 y43 z43
        obtain ⟨r43, rfl, Nq43, Kq43, fq43_r, Gq43_0, Gq43_1, Gq43_2, Gq43_3⟩ := hQ43
        replace N := Fr.app N Nq43
        have lt_b1_r43 : b1 < r43 := Nat.lt_of_lt_of_le G1.lt fq43_r
        have lt_b4_r43 : b4 < r43 := Nat.lt_of_lt_of_le G4.lt fq43_r
        have lt_b36_r43 : b36 < r43 := Nat.lt_of_lt_of_le A36.lt fq43_r
        have lt_b37_r43 : b37 < r43 := Nat.lt_of_lt_of_le G37.lt fq43_r
        have lt_b39_r43 : b39 < r43 := Nat.lt_of_lt_of_le Gq40_0.lt fq43_r
        have lt_b41_r43 : b41 < r43 := Nat.lt_of_lt_of_le A41.lt fq43_r
        have g_r43 : n0 ≤ r43 := Nat.le_trans (own_oldsz O) fq43_r
        have m_r43_43 : T38.heap.size ≤ r43 := Nat.le_trans KM.1 fq43_r
        replace G1 := G1.keep Kq43
        replace G4 := G4.keep Kq43
        replace A36 := A36.keep Kq43
        replace G37 := G37.keep Kq43
        replace Gq40_0 := Gq40_0.keep Kq43
        replace A41 := A41.keep Kq43
        replace Gq42_0 := Gq42_0.keep Kq43 nin0
        replace Gq42_1 := Gq42_1.keep Kq43 nin0
        replace Gq42_2 := Gq42_2.keep Kq43 nin0
        replace O := O.keep Kq43 all0
        replace hk := Nat.le_trans hk Kq43.1
        replace KM := KM.trans Kq43 all0
        refine own_go (B := T43.setTop (mkF m 203 #[.val (.int p1), .val (.int p2), .val (.int p3), .val (.int p4), .val (.int p5), .val (.int bo), .val (.int bn), .val (.int be), .val (.ref b1), .val (.ref b4), .val (.ref b36), .val (.ref b39), .val .null, .val (.ref b41), .unset, .unset, .unset, .unset, .unset, .unset] [(.ref r43)])) (fun t k => st43.trans k) ?_
        refine own_go (B := T43.setTop (mkF m 207 #[.val (.int p1), .val (.int p2), .val (.int p3), .val (.int p4), .val (.int p5), .val (.int bo), .val (.int bn), .val (.int be), .val (.ref b1), .val (.ref b4), .val (.ref b36), .val (.ref b39), .val .null, .val (.ref b41), .val (.ref r43), .unset, .unset, .unset, .unset, .unset] [(.ref r43)])) (fun t k => ?_) ?_
        · show Steps p.tables e below (T43.setTop (mkF m 203 #[.val (.int p1), .val (.int p2), .val (.int p3), .val (.int p4), .val (.int p5), .val (.int bo), .val (.int bn), .val (.int be), .val (.ref b1), .val (.ref b4), .val (.ref b36), .val (.ref b39), .val .null, .val (.ref b41), .unset, .unset, .unset, .unset, .unset, .unset] [(.ref r43)])) _
          refine XS.astore X43.here hx rfl (hb hby at_203) rfl rfl (l' := #[.val (.int p1), .val (.int p2), .val (.int p3), .val (.int p4), .val (.int p5), .val (.int bo), .val (.int bn), .val (.int be), .val (.ref b1), .val (.ref b4), .val (.ref b36), .val (.ref b39), .val .null, .val (.ref b41), .val (.ref r43), .unset, .unset, .unset, .unset, .unset]) rfl ?_
          show Steps p.tables e below (T43.setTop (mkF m 205 #[.val (.int p1), .val (.int p2), .val (.int p3), .val (.int p4), .val (.int p5), .val (.int bo), .val (.int bn), .val (.int be), .val (.ref b1), .val (.ref b4), .val (.ref b36), .val (.ref b39), .val .null, .val (.ref b41), .val (.ref r43), .unset, .unset, .unset, .unset, .unset] [])) _
          refine XS.aload X43.here hx rfl (hb hby at_205) rfl rfl ?_
          show Steps p.tables e below (T43.setTop (mkF m 207 #[.val (.int p1), .val (.int p2), .val (.int p3), .val (.int p4), .val (.int p5), .val (.int bo), .val (.int bn), .val (.int be), .val (.ref b1), .val (.ref b4), .val (.ref b36), .val (.ref b39), .val .null, .val (.ref b41), .val (.ref r43), .unset, .unset, .unset, .unset, .unset] [(.ref r43)])) _
          exact k
        -- pc 207: com/example/fieldloom/fieldloom/mapping/Value.text
        obtain ⟨cq44, kq44, q44a, q44b, q44c⟩ := isOf hZ rfl Gq43_0
        obtain ⟨_, _, ⟨T44, L44, k44, n44⟩, -, X44, ⟨Lc44, hQ44, l44, y44, z44⟩, st44⟩ := X43.virtualBack hx (y := (⟨"com/example/fieldloom/fieldloom/mapping/Value", "text", "()Ljava/lang/String;"⟩ : MethodName)) (z := (⟨"com/example/fieldloom/fieldloom/mapping/Value", "text", "()Ljava/lang/String;"⟩ : MethodName)) hown (mvT hZ (hw _ (List.mem_of_getElem? (i := 58) rfl))) (mvT hZ (hw _ (List.mem_of_getElem? (i := 59) rfl))) (notFace_of_selects (args := #[]) (mvT hZ (hw _ (List.mem_of_getElem? (i := 61) rfl)))) (mvT hZ (hw _ (List.mem_of_getElem? (i := 61) rfl))) (mvT hZ (hw _ (List.mem_of_getElem? (i := 60) rfl))) (by decide) (backOf (W := 0) (rmGt l Z a0 hw [] r43 (.ref b36) T43.heap n0 O Gq43_1 rfl) hZ (hw _ (List.mem_of_getElem? (i := 62) rfl)) (hw _ (List.mem_of_getElem? (i := 32) rfl)) (by decide) (by decide)) q44a q44c (g := (mkF m 207 #[.val (.int p1), .val (.int p2), .val (.int p3), .val (.int p4), .val (.int p5), .val (.int bo), .val (.int bn), .val (.int be), .val (.ref b1), .val (.ref b4), .val (.ref b36), .val (.ref b39), .val .null, .val (.ref b41), .val (.ref r43), .unset, .unset, .unset, .unset, .unset] [(.ref r43)])) rfl (by rw [hml]; rfl) (Steps.refl _) (argsL := []) (rest := []) (lenOf pd_6 rfl) rfl (by show 2 * 0 + _ ≤ _; exact Nat.le_of_eq rfl) (hb hby at_207) (fun _ hWm => ⟨rfl, rfl, (by decide : 10 + 0 ≤ _), (by decide : 26 + 0 ≤ _)⟩)
        dsimp only [Pt.U, Pt.locs, Pt.cells, Pt.slots] at X44 l44 y44 z44 st44 hQ44
        subst l44 y44 z44
        obtain ⟨rfl, Nq44, Kq44⟩ := hQ44
        replace N := Fr.app N Nq44
        refine own_go (B := T44.setTop (mkF m 210 #[.val (.int p1), .val (.int p2), .val (.int p3), .val (.int p4), .val (.int p5), .val (.int bo), .val (.int bn), .val (.int be), .val (.ref b1), .val (.ref b4), .val (.ref b36), .val (.ref b39), .val .null, .val (.ref b41), .val (.ref r43), .unset, .unset, .unset, .unset, .unset] [(.ref b36)])) (fun t k => st44.trans k) ?_
        refine own_go (B := T44.setTop (mkF m 239 #[.val (.int p1), .val (.int p2), .val (.int p3), .val (.int p4), .val (.int p5), .val (.int bo), .val (.int bn), .val (.int be), .val (.ref b1), .val (.ref b4), .val (.ref b36), .val (.ref b39), .val .null, .val (.ref b41), .val (.ref r43), .val (.ref b36), .unset, .unset, .unset, .unset] [(.ref b36), (.ref b36)])) (fun t k => ?_) ?_
        · show Steps p.tables e below (T44.setTop (mkF m 210 #[.val (.int p1), .val (.int p2), .val (.int p3), .val (.int p4), .val (.int p5), .val (.int bo), .val (.int bn), .val (.int be), .val (.ref b1), .val (.ref b4), .val (.ref b36), .val (.ref b39), .val .null, .val (.ref b41), .val (.ref r43), .unset, .unset, .unset, .unset, .unset] [(.ref b36)])) _
          refine XS.astore X44.here hx rfl (hb hby at_210) rfl rfl (l' := #[.val (.int p1), .val (.int p2), .val (.int p3), .val (.int p4), .val (.int p5), .val (.int bo), .val (.int bn), .val (.int be), .val (.ref b1), .val (.ref b4), .val (.ref b36), .val (.ref b39), .val .null, .val (.ref b41), .val (.ref r43), .val (.ref b36), .unset, .unset, .unset, .unset]) rfl ?_
          show Steps p.tables e below (T44.setTop (mkF m 212 #[.val (.int p1), .val (.int p2), .val (.int p3), .val (.int p4), .val (.int p5), .val (.int bo), .val (.int bn), .val (.int be), .val (.ref b1), .val (.ref b4), .val (.ref b36), .val (.ref b39), .val .null, .val (.ref b41), .val (.ref r43), .val (.ref b36), .unset, .unset, .unset, .unset] [])) _
          refine XS.aload X44.here hx rfl (hb hby at_212) rfl rfl ?_
          show Steps p.tables e below (T44.setTop (mkF m 214 #[.val (.int p1), .val (.int p2), .val (.int p3), .val (.int p4), .val (.int p5), .val (.int bo), .val (.int bn), .val (.int be), .val (.ref b1), .val (.ref b4), .val (.ref b36), .val (.ref b39), .val .null, .val (.ref b41), .val (.ref r43), .val (.ref b36), .unset, .unset, .unset, .unset] [(.ref b36)])) _
          refine XT.ifnonnullYes X44.here hx rfl (pc0 := 214) (pc' := 230) rfl (hb hby at_214) rfl (by decide) (by decide) ?_
          show Steps p.tables e below (T44.setTop (mkF m 230 #[.val (.int p1), .val (.int p2), .val (.int p3), .val (.int p4), .val (.int p5), .val (.int bo), .val (.int bn), .val (.int be), .val (.ref b1), .val (.ref b4), .val (.ref b36), .val (.ref b39), .val .null, .val (.ref b41), .val (.ref r43), .val (.ref b36), .unset, .unset, .unset, .unset] [])) _
          refine XS.aload X44.here hx rfl (hb hby at_230) rfl rfl ?_
          show Steps p.tables e below (T44.setTop (mkF m 232 #[.val (.int p1), .val (.int p2), .val (.int p3), .val (.int p4), .val (.int p5), .val (.int bo), .val (.int bn), .val (.int be), .val (.ref b1), .val (.ref b4), .val (.ref b36), .val (.ref b39), .val .null, .val (.ref b41), .val (.ref r43), .val (.ref b36), .unset, .unset, .unset, .unset] [(.ref b36)])) _
          refine XS.ifnullNo X44.here hx rfl (hb hby at_232) rfl ?_
          show Steps p.tables e below (T44.setTop (mkF m 235 #[.val (.int p1), .val (.int p2), .val (.int p3), .val (.int p4), .val (.int p5), .val (.int bo), .val (.int bn), .val (.int be), .val (.ref b1), .val (.ref b4), .val (.ref b36), .val (.ref b39), .val .null, .val (.ref b41), .val (.ref r43), .val (.ref b36), .unset, .unset, .unset, .unset] [])) _
          refine XS.aload X44.here hx rfl (hb hby at_235) rfl rfl ?_
          show Steps p.tables e below (T44.setTop (mkF m 237 #[.val (.int p1), .val (.int p2), .val (.int p3), .val (.int p4), .val (.int p5), .val (.int bo), .val (.int bn), .val (.int be), .val (.ref b1), .val (.ref b4), .val (.ref b36), .val (.ref b39), .val .null, .val (.ref b41), .val (.ref r43), .val (.ref b36), .unset, .unset, .unset, .unset] [(.ref b36)])) _
          refine XS.aload X44.here hx rfl (hb hby at_237) rfl rfl ?_
          show Steps p.tables e below (T44.setTop (mkF m 239 #[.val (.int p1), .val (.int p2), .val (.int p3), .val (.int p4), .val (.int p5), .val (.int bo), .val (.int bn), .val (.int be), .val (.ref b1), .val (.ref b4), .val (.ref b36), .val (.ref b39), .val .null, .val (.ref b41), .val (.ref r43), .val (.ref b36), .unset, .unset, .unset, .unset] [(.ref b36), (.ref b36)])) _
          exact k
        -- pc 239: java/lang/String.equals
        obtain ⟨cq45, kq45, q45a, q45b, q45c⟩ := isOf hZ Kq44 A36
        obtain ⟨_, _, ⟨T45, L45, k45, n45⟩, -, X45, ⟨Lc45, hQ45, l45, y45, z45⟩, st45⟩ := X44.virtualBack hx (y := (⟨"java/lang/String", "equals", "(Ljava/lang/Object;)Z"⟩ : MethodName)) (z := (⟨"java/lang/String", "equals", "(Ljava/lang/Object;)Z"⟩ : MethodName)) hown (mvT hZ (hw _ (List.mem_of_getElem? (i := 63) rfl))) (mvT hZ (hw _ (List.mem_of_getElem? (i := 64) rfl))) (notFace_of_selects (args := #[]) (mvT hZ (hw _ (List.mem_of_getElem? (i := 66) rfl)))) (mvT hZ (hw _ (List.mem_of_getElem? (i := 66) rfl))) (mvT hZ (hw _ (List.mem_of_getElem? (i := 65) rfl))) (by decide) (backOf (W := 0) (rmEqS l Z a0 hw [] b36 T43.heap n0 O ) hZ (hw _ (List.mem_of_getElem? (i := 67) rfl)) (hw _ (List.mem_of_getElem? (i := 3) rfl)) (by decide) (by decide)) q45a q45c (g := (mkF m 239 #[.val (.int p1), .val (.int p2), .val (.int p3), .val (.int p4), .val (.int p5), .val (.int bo), .val (.int bn), .val (.int be), .val (.ref b1), .val (.ref b4), .val (.ref b36), .val (.ref b39), .val .null, .val (.ref b41), .val (.ref r43), .val (.ref b36), .unset, .unset, .unset, .unset] [(.ref b36), (.ref b36)])) rfl (by rw [hml]; rfl) (Steps.refl _) (argsL := [(.ref b36)]) (rest := []) (lenOf pd_7 rfl) rfl (by show 2 * 0 + _ ≤ _; exact Nat.le_of_eq rfl) (hb hby at_239) (fun _ hWm => ⟨rfl, Kq44, (by decide : 10 + 0 ≤ _), (by decide : 26 + 0 ≤ _)⟩)
        dsimp only [Pt.U, Pt.locs, Pt.cells, Pt.slots] at X45 l45 y45 z45 st45 hQ45
        subst l45 y45 z45
        obtain ⟨rfl, Nq45, Kq45⟩ := hQ45
        replace N := Fr.app N Nq45
        refine own_go (B := T45.setTop (mkF m 242 #[.val (.int p1), .val (.int p2), .val (.int p3), .val (.int p4), .val (.int p5), .val (.int bo), .val (.int bn), .val (.int be), .val (.ref b1), .val (.ref b4), .val (.ref b36), .val (.ref b39), .val .null, .val (.ref b41), .val (.ref r43), .val (.ref b36), .unset, .unset, .unset, .unset] [(.int (1 : Int32))])) (fun t k => st45.trans k) ?_
        refine own_go (B := T45.setTop (mkF m 254 #[.val (.int p1), .val (.int p2), .val (.int p3), .val (.int p4), .val (.int p5), .val (.int bo), .val (.int bn), .val (.int be), .val (.ref b1), .val (.ref b4), .val (.ref b36), .val (.ref b39), .val .null, .val (.ref b41), .val (.ref r43), .val (.ref b36), .val (.int (1 : Int32)), .unset, .unset, .unset] [(.ref r43)])) (fun t k => ?_) ?_
        · show Steps p.tables e below (T45.setTop (mkF m 242 #[.val (.int p1), .val (.int p2), .val (.int p3), .val (.int p4), .val (.int p5), .val (.int bo), .val (.int bn), .val (.int be), .val (.ref b1), .val (.ref b4), .val (.ref b36), .val (.ref b39), .val .null, .val (.ref b41), .val (.ref r43), .val (.ref b36), .unset, .unset, .unset, .unset] [(.int (1 : Int32))])) _
          refine XS.ifNo X45.here hx rfl (hb hby at_242) rfl ((if0 _ _).trans (feq (by decide)).1) ?_
          show Steps p.tables e below (T45.setTop (mkF m 245 #[.val (.int p1), .val (.int p2), .val (.int p3), .val (.int p4), .val (.int p5), .val (.int bo), .val (.int bn), .val (.int be), .val (.ref b1), .val (.ref b4), .val (.ref b36), .val (.ref b39), .val .null, .val (.ref b41), .val (.ref r43), .val (.ref b36), .unset, .unset, .unset, .unset] [])) _
          refine XS.iconst X45.here hx rfl (hb hby at_245) ?_
          show Steps p.tables e below (T45.setTop (mkF m 246 #[.val (.int p1), .val (.int p2), .val (.int p3), .val (.int p4), .val (.int p5), .val (.int bo), .val (.int bn), .val (.int be), .val (.ref b1), .val (.ref b4), .val (.ref b36), .val (.ref b39), .val .null, .val (.ref b41), .val (.ref r43), .val (.ref b36), .unset, .unset, .unset, .unset] [(.int (1 : Int32))])) _
          refine XS.goto X45.here hx rfl (pc0 := 246) (pc' := 250) rfl (hb hby at_246) (by decide) (by decide) ?_
          show Steps p.tables e below (T45.setTop (mkF m 250 #[.val (.int p1), .val (.int p2), .val (.int p3), .val (.int p4), .val (.int p5), .val (.int bo), .val (.int bn), .val (.int be), .val (.ref b1), .val (.ref b4), .val (.ref b36), .val (.ref b39), .val .null, .val (.ref b41), .val (.ref r43), .val (.ref b36), .unset, .unset, .unset, .unset] [(.int (1 : Int32))])) _
          refine XS.istore X45.here hx rfl (hb hby at_250) rfl (l' := #[.val (.int p1), .val (.int p2), .val (.int p3), .val (.int p4), .val (.int p5), .val (.int bo), .val (.int bn), .val (.int be), .val (.ref b1), .val (.ref b4), .val (.ref b36), .val (.ref b39), .val .null, .val (.ref b41), .val (.ref r43), .val (.ref b36), .val (.int (1 : Int32)), .unset, .unset, .unset]) rfl ?_
          show Steps p.tables e below (T45.setTop (mkF m 252 #[.val (.int p1), .val (.int p2), .val (.int p3), .val (.int p4), .val (.int p5), .val (.int bo), .val (.int bn), .val (.int be), .val (.ref b1), .val (.ref b4), .val (.ref b36), .val (.ref b39), .val .null, .val (.ref b41), .val (.ref r43), .val (.ref b36), .val (.int (1 : Int32)), .unset, .unset, .unset] [])) _
          refine XS.aload X45.here hx rfl (hb hby at_252) rfl rfl ?_
          show Steps p.tables e below (T45.setTop (mkF m 254 #[.val (.int p1), .val (.int p2), .val (.int p3), .val (.int p4), .val (.int p5), .val (.int bo), .val (.int bn), .val (.int be), .val (.ref b1), .val (.ref b4), .val (.ref b36), .val (.ref b39), .val .null, .val (.ref b41), .val (.ref r43), .val (.ref b36), .val (.int (1 : Int32)), .unset, .unset, .unset] [(.ref r43)])) _
          exact k
        -- pc 254: com/example/fieldloom/fieldloom/mapping/Value.occurrence
        obtain ⟨cq46, kq46, q46a, q46b, q46c⟩ := isOf hZ Kq45 Gq43_0
        obtain ⟨_, _, ⟨T46, L46, k46, n46⟩, -, X46, ⟨Lc46, hQ46, l46, y46, z46⟩, st46⟩ := X45.virtualBack hx (y := (⟨"com/example/fieldloom/fieldloom/mapping/Value", "occurrence", "()Lcom/example/fieldloom/fieldloom/mapping/FieldOccurrence;"⟩ : MethodName)) (z := (⟨"com/example/fieldloom/fieldloom/mapping/Value", "occurrence", "()Lcom/example/fieldloom/fieldloom/mapping/FieldOccurrence;"⟩ : MethodName)) hown (mvT hZ (hw _ (List.mem_of_getElem? (i := 68) rfl))) (mvT hZ (hw _ (List.mem_of_getElem? (i := 69) rfl))) (notFace_of_selects (args := #[]) (mvT hZ (hw _ (List.mem_of_getElem? (i := 71) rfl)))) (mvT hZ (hw _ (List.mem_of_getElem? (i := 71) rfl))) (mvT hZ (hw _ (List.mem_of_getElem? (i := 70) rfl))) (by decide) (backOf (W := 0) (rmGo l Z a0 hw [] r43 (.null) T43.heap n0 O Gq43_2 rfl) hZ (hw _ (List.mem_of_getElem? (i := 72) rfl)) (hw _ (List.mem_of_getElem? (i := 32) rfl)) (by decide) (by decide)) q46a q46c (g := (mkF m 254 #[.val (.int p1), .val (.int p2), .val (.int p3), .val (.int p4), .val (.int p5), .val (.int bo), .val (.int bn), .val (.int be), .val (.ref b1), .val (.ref b4), .val (.ref b36), .val (.ref b39), .val .null, .val (.ref b41), .val (.ref r43), .val (.ref b36), .val (.int (1 : Int32)), .unset, .unset, .unset] [(.ref r43)])) rfl (by rw [hml]; rfl) (Steps.refl _) (argsL := []) (rest := []) (lenOf pd_8 rfl) rfl (by show 2 * 0 + _ ≤ _; exact Nat.le_of_eq rfl) (hb hby at_254) (fun _ hWm => ⟨rfl, Kq45, (by decide : 10 + 0 ≤ _), (by decide : 26 + 0 ≤ _)⟩)
        dsimp only [Pt.U, Pt.locs, Pt.cells, Pt.slots] at X46 l46 y46 z46 st46 hQ46
        subst l46 y46 z46
        obtain ⟨rfl, Nq46, Kq46⟩ := hQ46
        replace N := Fr.app N Nq46
        refine own_go (B := T46.setTop (mkF m 257 #[.val (.int p1), .val (.int p2), .val (.int p3), .val (.int p4), .val (.int p5), .val (.int bo), .val (.int bn), .val (.int be), .val (.ref b1), .val (.ref b4), .val (.ref b36), .val (.ref b39), .val .null, .val (.ref b41), .val (.ref r43), .val (.ref b36), .val (.int (1 : Int32)), .unset, .unset, .unset] [.null])) (fun t k => st46.trans k) ?_
        refine own_go (B := T46.setTop (mkF m 271 #[.val (.int p1), .val (.int p2), .val (.int p3), .val (.int p4), .val (.int p5), .val (.int bo), .val (.int bn), .val (.int be), .val (.ref b1), .val (.ref b4), .val (.ref b36), .val (.ref b39), .val .null, .val (.ref b41), .val (.ref r43), .val (.ref b36), .val (.int (1 : Int32)), .val (.int (1 : Int32)), .unset, .unset] [(.ref r43)])) (fun t k => ?_) ?_
        · show Steps p.tables e below (T46.setTop (mkF m 257 #[.val (.int p1), .val (.int p2), .val (.int p3), .val (.int p4), .val (.int p5), .val (.int bo), .val (.int bn), .val (.int be), .val (.ref b1), .val (.ref b4), .val (.ref b36), .val (.ref b39), .val .null, .val (.ref b41), .val (.ref r43), .val (.ref b36), .val (.int (1 : Int32)), .unset, .unset, .unset] [.null])) _
          refine XS.aload X46.here hx rfl (hb hby at_257) rfl rfl ?_
          show Steps p.tables e below (T46.setTop (mkF m 259 #[.val (.int p1), .val (.int p2), .val (.int p3), .val (.int p4), .val (.int p5), .val (.int bo), .val (.int bn), .val (.int be), .val (.ref b1), .val (.ref b4), .val (.ref b36), .val (.ref b39), .val .null, .val (.ref b41), .val (.ref r43), .val (.ref b36), .val (.int (1 : Int32)), .unset, .unset, .unset] [.null, .null])) _
          refine Jvm.RoadKit.acmp (g := (mkF m 259 #[.val (.int p1), .val (.int p2), .val (.int p3), .val (.int p4), .val (.int p5), .val (.int bo), .val (.int bn), .val (.int be), .val (.ref b1), .val (.ref b4), .val (.ref b36), .val (.ref b39), .val .null, .val (.ref b41), .val (.ref r43), .val (.ref b36), .val (.int (1 : Int32)), .unset, .unset, .unset] [.null, .null])) X46 hx rfl rfl rfl (pc0 := 259) (pc' := 262) (same := true) rfl (hb hby at_259) rfl (decide_eq_true rfl) (by decide) (by decide) ?_
          show Steps p.tables e below (T46.setTop (mkF m 262 #[.val (.int p1), .val (.int p2), .val (.int p3), .val (.int p4), .val (.int p5), .val (.int bo), .val (.int bn), .val (.int be), .val (.ref b1), .val (.ref b4), .val (.ref b36), .val (.ref b39), .val .null, .val (.ref b41), .val (.ref r43), .val (.ref b36), .val (.int (1 : Int32)), .unset, .unset, .unset] [])) _
          refine XS.iconst X46.here hx rfl (hb hby at_262) ?_
          show Steps p.tables e below (T46.setTop (mkF m 263 #[.val (.int p1), .val (.int p2), .val (.int p3), .val (.int p4), .val (.int p5), .val (.int bo), .val (.int bn), .val (.int be), .val (.ref b1), .val (.ref b4), .val (.ref b36), .val (.ref b39), .val .null, .val (.ref b41), .val (.ref r43), .val (.ref b36), .val (.int (1 : Int32)), .unset, .unset, .unset] [(.int (1 : Int32))])) _
          refine XS.goto X46.here hx rfl (pc0 := 263) (pc' := 267) rfl (hb hby at_263) (by decide) (by decide) ?_
          show Steps p.tables e below (T46.setTop (mkF m 267 #[.val (.int p1), .val (.int p2), .val (.int p3), .val (.int p4), .val (.int p5), .val (.int bo), .val (.int bn), .val (.int be), .val (.ref b1), .val (.ref b4), .val (.ref b36), .val (.ref b39), .val .null, .val (.ref b41), .val (.ref r43), .val (.ref b36), .val (.int (1 : Int32)), .unset, .unset, .unset] [(.int (1 : Int32))])) _
          refine XS.istore X46.here hx rfl (hb hby at_267) rfl (l' := #[.val (.int p1), .val (.int p2), .val (.int p3), .val (.int p4), .val (.int p5), .val (.int bo), .val (.int bn), .val (.int be), .val (.ref b1), .val (.ref b4), .val (.ref b36), .val (.ref b39), .val .null, .val (.ref b41), .val (.ref r43), .val (.ref b36), .val (.int (1 : Int32)), .val (.int (1 : Int32)), .unset, .unset]) rfl ?_
          show Steps p.tables e below (T46.setTop (mkF m 269 #[.val (.int p1), .val (.int p2), .val (.int p3), .val (.int p4), .val (.int p5), .val (.int bo), .val (.int bn), .val (.int be), .val (.ref b1), .val (.ref b4), .val (.ref b36), .val (.ref b39), .val .null, .val (.ref b41), .val (.ref r43), .val (.ref b36), .val (.int (1 : Int32)), .val (.int (1 : Int32)), .unset, .unset] [])) _
          refine XS.aload X46.here hx rfl (hb hby at_269) rfl rfl ?_
          show Steps p.tables e below (T46.setTop (mkF m 271 #[.val (.int p1), .val (.int p2), .val (.int p3), .val (.int p4), .val (.int p5), .val (.int bo), .val (.int bn), .val (.int be), .val (.ref b1), .val (.ref b4), .val (.ref b36), .val (.ref b39), .val .null, .val (.ref b41), .val (.ref r43), .val (.ref b36), .val (.int (1 : Int32)), .val (.int (1 : Int32)), .unset, .unset] [(.ref r43)])) _
          exact k
        -- pc 271: com/example/fieldloom/fieldloom/mapping/Value.position
        obtain ⟨cq47, kq47, q47a, q47b, q47c⟩ := isOf hZ Kq46 Gq43_0
        obtain ⟨_, _, ⟨T47, L47, k47, n47⟩, -, X47, ⟨Lc47, hQ47, l47, y47, z47⟩, st47⟩ := X46.virtualBack hx (y := (⟨"com/example/fieldloom/fieldloom/mapping/Value", "position", "()I"⟩ : MethodName)) (z := (⟨"com/example/fieldloom/fieldloom/mapping/Value", "position", "()I"⟩ : MethodName)) hown (mvT hZ (hw _ (List.mem_of_getElem? (i := 73) rfl))) (mvT hZ (hw _ (List.mem_of_getElem? (i := 74) rfl))) (notFace_of_selects (args := #[]) (mvT hZ (hw _ (List.mem_of_getElem? (i := 76) rfl)))) (mvT hZ (hw _ (List.mem_of_getElem? (i := 76) rfl))) (mvT hZ (hw _ (List.mem_of_getElem? (i := 75) rfl))) (by decide) (backOf (W := 0) (rmGp l Z a0 hw [] r43 (1 : Int32) T43.heap n0 O Gq43_3) hZ (hw _ (List.mem_of_getElem? (i := 77) rfl)) (hw _ (List.mem_of_getElem? (i := 32) rfl)) (by decide) (by decide)) q47a q47c (g := (mkF m 271 #[.val (.int p1), .val (.int p2), .val (.int p3), .val (.int p4), .val (.int p5), .val (.int bo), .val (.int bn), .val (.int be), .val (.ref b1), .val (.ref b4), .val (.ref b36), .val (.ref b39), .val .null, .val (.ref b41), .val (.ref r43), .val (.ref b36), .val (.int (1 : Int32)), .val (.int (1 : Int32)), .unset, .unset] [(.ref r43)])) rfl (by rw [hml]; rfl) (Steps.refl _) (argsL := []) (rest := []) (lenOf pd_9 rfl) rfl (by show 2 * 0 + _ ≤ _; exact Nat.le_of_eq rfl) (hb hby at_271) (fun _ hWm => ⟨rfl, Kq46, (by decide : 10 + 0 ≤ _), (by decide : 26 + 0 ≤ _)⟩)
        dsimp only [Pt.U, Pt.locs, Pt.cells, Pt.slots] at X47 l47 y47 z47 st47 hQ47
        subst l47 y47 z47
        obtain ⟨rfl, Nq47, Kq47⟩ := hQ47
        replace N := Fr.app N Nq47
        refine own_go (B := T47.setTop (mkF m 274 #[.val (.int p1), .val (.int p2), .val (.int p3), .val (.int p4), .val (.int p5), .val (.int bo), .val (.int bn), .val (.int be), .val (.ref b1), .val (.ref b4), .val (.ref b36), .val (.ref b39), .val .null, .val (.ref b41), .val (.ref r43), .val (.ref b36), .val (.int (1 : Int32)), .val (.int (1 : Int32)), .unset, .unset] [(.int (1 : Int32))])) (fun t k => st47.trans k) ?_
        refine own_go (B := T47.setTop (mkF m 287 #[.val (.int p1), .val (.int p2), .val (.int p3), .val (.int p4), .val (.int p5), .val (.int bo), .val (.int bn), .val (.int be), .val (.ref b1), .val (.ref b4), .val (.ref b36), .val (.ref b39), .val .null, .val (.ref b41), .val (.ref r43), .val (.ref b36), .val (.int (1 : Int32)), .val (.int (1 : Int32)), .val (.int (1 : Int32)), .unset] [(.ref b41)])) (fun t k => ?_) ?_
        · show Steps p.tables e below (T47.setTop (mkF m 274 #[.val (.int p1), .val (.int p2), .val (.int p3), .val (.int p4), .val (.int p5), .val (.int bo), .val (.int bn), .val (.int be), .val (.ref b1), .val (.ref b4), .val (.ref b36), .val (.ref b39), .val .null, .val (.ref b41), .val (.ref r43), .val (.ref b36), .val (.int (1 : Int32)), .val (.int (1 : Int32)), .unset, .unset] [(.int (1 : Int32))])) _
          refine XS.iconst X47.here hx rfl (hb hby at_274) ?_
          show Steps p.tables e below (T47.setTop (mkF m 275 #[.val (.int p1), .val (.int p2), .val (.int p3), .val (.int p4), .val (.int p5), .val (.int bo), .val (.int bn), .val (.int be), .val (.ref b1), .val (.ref b4), .val (.ref b36), .val (.ref b39), .val .null, .val (.ref b41), .val (.ref r43), .val (.ref b36), .val (.int (1 : Int32)), .val (.int (1 : Int32)), .unset, .unset] [(.int (1 : Int32)), (.int (1 : Int32))])) _
          refine XS.icmpNo X47.here hx rfl (hb hby at_275) rfl (teq rfl).2 ?_
          show Steps p.tables e below (T47.setTop (mkF m 278 #[.val (.int p1), .val (.int p2), .val (.int p3), .val (.int p4), .val (.int p5), .val (.int bo), .val (.int bn), .val (.int be), .val (.ref b1), .val (.ref b4), .val (.ref b36), .val (.ref b39), .val .null, .val (.ref b41), .val (.ref r43), .val (.ref b36), .val (.int (1 : Int32)), .val (.int (1 : Int32)), .unset, .unset] [])) _
          refine XS.iconst X47.here hx rfl (hb hby at_278) ?_
          show Steps p.tables e below (T47.setTop (mkF m 279 #[.val (.int p1), .val (.int p2), .val (.int p3), .val (.int p4), .val (.int p5), .val (.int bo), .val (.int bn), .val (.int be), .val (.ref b1), .val (.ref b4), .val (.ref b36), .val (.ref b39), .val .null, .val (.ref b41), .val (.ref r43), .val (.ref b36), .val (.int (1 : Int32)), .val (.int (1 : Int32)), .unset, .unset] [(.int (1 : Int32))])) _
          refine XS.goto X47.here hx rfl (pc0 := 279) (pc' := 283) rfl (hb hby at_279) (by decide) (by decide) ?_
          show Steps p.tables e below (T47.setTop (mkF m 283 #[.val (.int p1), .val (.int p2), .val (.int p3), .val (.int p4), .val (.int p5), .val (.int bo), .val (.int bn), .val (.int be), .val (.ref b1), .val (.ref b4), .val (.ref b36), .val (.ref b39), .val .null, .val (.ref b41), .val (.ref r43), .val (.ref b36), .val (.int (1 : Int32)), .val (.int (1 : Int32)), .unset, .unset] [(.int (1 : Int32))])) _
          refine XS.istore X47.here hx rfl (hb hby at_283) rfl (l' := #[.val (.int p1), .val (.int p2), .val (.int p3), .val (.int p4), .val (.int p5), .val (.int bo), .val (.int bn), .val (.int be), .val (.ref b1), .val (.ref b4), .val (.ref b36), .val (.ref b39), .val .null, .val (.ref b41), .val (.ref r43), .val (.ref b36), .val (.int (1 : Int32)), .val (.int (1 : Int32)), .val (.int (1 : Int32)), .unset]) rfl ?_
          show Steps p.tables e below (T47.setTop (mkF m 285 #[.val (.int p1), .val (.int p2), .val (.int p3), .val (.int p4), .val (.int p5), .val (.int bo), .val (.int bn), .val (.int be), .val (.ref b1), .val (.ref b4), .val (.ref b36), .val (.ref b39), .val .null, .val (.ref b41), .val (.ref r43), .val (.ref b36), .val (.int (1 : Int32)), .val (.int (1 : Int32)), .val (.int (1 : Int32)), .unset] [])) _
          refine XS.aload X47.here hx rfl (hb hby at_285) rfl rfl ?_
          show Steps p.tables e below (T47.setTop (mkF m 287 #[.val (.int p1), .val (.int p2), .val (.int p3), .val (.int p4), .val (.int p5), .val (.int bo), .val (.int bn), .val (.int be), .val (.ref b1), .val (.ref b4), .val (.ref b36), .val (.ref b39), .val .null, .val (.ref b41), .val (.ref r43), .val (.ref b36), .val (.int (1 : Int32)), .val (.int (1 : Int32)), .val (.int (1 : Int32)), .unset] [(.ref b41)])) _
          exact k
        -- pc 287: com/example/fieldloom/fieldloom/mapping/Value.text
        obtain ⟨cq48, kq48, q48a, q48b, q48c⟩ := isOf hZ Kq47 A41
        obtain ⟨_, _, ⟨T48, L48, k48, n48⟩, -, X48, ⟨Lc48, hQ48, l48, y48, z48⟩, st48⟩ := X47.virtualBack hx (y := (⟨"com/example/fieldloom/fieldloom/mapping/Value", "text", "()Ljava/lang/String;"⟩ : MethodName)) (z := (⟨"com/example/fieldloom/fieldloom/mapping/Value", "text", "()Ljava/lang/String;"⟩ : MethodName)) hown (mvT hZ (hw _ (List.mem_of_getElem? (i := 58) rfl))) (mvT hZ (hw _ (List.mem_of_getElem? (i := 59) rfl))) (notFace_of_selects (args := #[]) (mvT hZ (hw _ (List.mem_of_getElem? (i := 61) rfl)))) (mvT hZ (hw _ (List.mem_of_getElem? (i := 61) rfl))) (mvT hZ (hw _ (List.mem_of_getElem? (i := 60) rfl))) (by decide) (backOf (W := 0) (rmGt l Z a0 hw [] b41 (.ref b39) T43.heap n0 O Gq42_0 rfl) hZ (hw _ (List.mem_of_getElem? (i := 62) rfl)) (hw _ (List.mem_of_getElem? (i := 32) rfl)) (by decide) (by decide)) q48a q48c (g := (mkF m 287 #[.val (.int p1), .val (.int p2), .val (.int p3), .val (.int p4), .val (.int p5), .val (.int bo), .val (.int bn), .val (.int be), .val (.ref b1), .val (.ref b4), .val (.ref b36), .val (.ref b39), .val .null, .val (.ref b41), .val (.ref r43), .val (.ref b36), .val (.int (1 : Int32)), .val (.int (1 : Int32)), .val (.int (1 : Int32)), .unset] [(.ref b41)])) rfl (by rw [hml]; rfl) (Steps.refl _) (argsL := []) (rest := []) (lenOf pd_6 rfl) rfl (by show 2 * 0 + _ ≤ _; exact Nat.le_of_eq rfl) (hb hby at_287) (fun _ hWm => ⟨rfl, Kq47, (by decide : 10 + 0 ≤ _), (by decide : 26 + 0 ≤ _)⟩)
        dsimp only [Pt.U, Pt.locs, Pt.cells, Pt.slots] at X48 l48 y48 z48 st48 hQ48
        subst l48 y48 z48
        obtain ⟨rfl, Nq48, Kq48⟩ := hQ48
        replace N := Fr.app N Nq48
        refine own_go (B := T48.setTop (mkF m 290 #[.val (.int p1), .val (.int p2), .val (.int p3), .val (.int p4), .val (.int p5), .val (.int bo), .val (.int bn), .val (.int be), .val (.ref b1), .val (.ref b4), .val (.ref b36), .val (.ref b39), .val .null, .val (.ref b41), .val (.ref r43), .val (.ref b36), .val (.int (1 : Int32)), .val (.int (1 : Int32)), .val (.int (1 : Int32)), .unset] [(.ref b39)])) (fun t k => st48.trans k) ?_
        refine own_go (B := T48.setTop (mkF m 297 #[.val (.int p1), .val (.int p2), .val (.int p3), .val (.int p4), .val (.int p5), .val (.int bo), .val (.int bn), .val (.int be), .val (.ref b1), .val (.ref b4), .val (.ref b36), .val (.ref b39), .val .null, .val (.ref b41), .val (.ref r43), .val (.ref b36), .val (.int (1 : Int32)), .val (.int (1 : Int32)), .val (.int (1 : Int32)), .unset] [(.ref b41)])) (fun t k => ?_) ?_
        · show Steps p.tables e below (T48.setTop (mkF m 290 #[.val (.int p1), .val (.int p2), .val (.int p3), .val (.int p4), .val (.int p5), .val (.int bo), .val (.int bn), .val (.int be), .val (.ref b1), .val (.ref b4), .val (.ref b36), .val (.ref b39), .val .null, .val (.ref b41), .val (.ref r43), .val (.ref b36), .val (.int (1 : Int32)), .val (.int (1 : Int32)), .val (.int (1 : Int32)), .unset] [(.ref b39)])) _
          refine XS.aload X48.here hx rfl (hb hby at_290) rfl rfl ?_
          show Steps p.tables e below (T48.setTop (mkF m 292 #[.val (.int p1), .val (.int p2), .val (.int p3), .val (.int p4), .val (.int p5), .val (.int bo), .val (.int bn), .val (.int be), .val (.ref b1), .val (.ref b4), .val (.ref b36), .val (.ref b39), .val .null, .val (.ref b41), .val (.ref r43), .val (.ref b36), .val (.int (1 : Int32)), .val (.int (1 : Int32)), .val (.int (1 : Int32)), .unset] [(.ref b39), (.ref b39)])) _
          refine Jvm.RoadKit.acmp (g := (mkF m 292 #[.val (.int p1), .val (.int p2), .val (.int p3), .val (.int p4), .val (.int p5), .val (.int bo), .val (.int bn), .val (.int be), .val (.ref b1), .val (.ref b4), .val (.ref b36), .val (.ref b39), .val .null, .val (.ref b41), .val (.ref r43), .val (.ref b36), .val (.int (1 : Int32)), .val (.int (1 : Int32)), .val (.int (1 : Int32)), .unset] [(.ref b39), (.ref b39)])) X48 hx rfl rfl rfl (pc0 := 292) (pc' := 295) (same := true) rfl (hb hby at_292) rfl (decide_eq_true (congrArg Value.ref rfl)) (by decide) (by decide) ?_
          show Steps p.tables e below (T48.setTop (mkF m 295 #[.val (.int p1), .val (.int p2), .val (.int p3), .val (.int p4), .val (.int p5), .val (.int bo), .val (.int bn), .val (.int be), .val (.ref b1), .val (.ref b4), .val (.ref b36), .val (.ref b39), .val .null, .val (.ref b41), .val (.ref r43), .val (.ref b36), .val (.int (1 : Int32)), .val (.int (1 : Int32)), .val (.int (1 : Int32)), .unset] [])) _
          refine XS.aload X48.here hx rfl (hb hby at_295) rfl rfl ?_
          show Steps p.tables e below (T48.setTop (mkF m 297 #[.val (.int p1), .val (.int p2), .val (.int p3), .val (.int p4), .val (.int p5), .val (.int bo), .val (.int bn), .val (.int be), .val (.ref b1), .val (.ref b4), .val (.ref b36), .val (.ref b39), .val .null, .val (.ref b41), .val (.ref r43), .val (.ref b36), .val (.int (1 : Int32)), .val (.int (1 : Int32)), .val (.int (1 : Int32)), .unset] [(.ref b41)])) _
          exact k
        -- pc 297: com/example/fieldloom/fieldloom/mapping/Value.occurrence
        obtain ⟨cq49, kq49, q49a, q49b, q49c⟩ := isOf hZ Kq48 A41
        obtain ⟨_, _, ⟨T49, L49, k49, n49⟩, -, X49, ⟨Lc49, hQ49, l49, y49, z49⟩, st49⟩ := X48.virtualBack hx (y := (⟨"com/example/fieldloom/fieldloom/mapping/Value", "occurrence", "()Lcom/example/fieldloom/fieldloom/mapping/FieldOccurrence;"⟩ : MethodName)) (z := (⟨"com/example/fieldloom/fieldloom/mapping/Value", "occurrence", "()Lcom/example/fieldloom/fieldloom/mapping/FieldOccurrence;"⟩ : MethodName)) hown (mvT hZ (hw _ (List.mem_of_getElem? (i := 68) rfl))) (mvT hZ (hw _ (List.mem_of_getElem? (i := 69) rfl))) (notFace_of_selects (args := #[]) (mvT hZ (hw _ (List.mem_of_getElem? (i := 71) rfl)))) (mvT hZ (hw _ (List.mem_of_getElem? (i := 71) rfl))) (mvT hZ (hw _ (List.mem_of_getElem? (i := 70) rfl))) (by decide) (backOf (W := 0) (rmGo l Z a0 hw [] b41 (.null) T43.heap n0 O Gq42_1 rfl) hZ (hw _ (List.mem_of_getElem? (i := 72) rfl)) (hw _ (List.mem_of_getElem? (i := 32) rfl)) (by decide) (by decide)) q49a q49c (g := (mkF m 297 #[.val (.int p1), .val (.int p2), .val (.int p3), .val (.int p4), .val (.int p5), .val (.int bo), .val (.int bn), .val (.int be), .val (.ref b1), .val (.ref b4), .val (.ref b36), .val (.ref b39), .val .null, .val (.ref b41), .val (.ref r43), .val (.ref b36), .val (.int (1 : Int32)), .val (.int (1 : Int32)), .val (.int (1 : Int32)), .unset] [(.ref b41)])) rfl (by rw [hml]; rfl) (Steps.refl _) (argsL := []) (rest := []) (lenOf pd_8 rfl) rfl (by show 2 * 0 + _ ≤ _; exact Nat.le_of_eq rfl) (hb hby at_297) (fun _ hWm => ⟨rfl, Kq48, (by decide : 10 + 0 ≤ _), (by decide : 26 + 0 ≤ _)⟩)
        dsimp only [Pt.U, Pt.locs, Pt.cells, Pt.slots] at X49 l49 y49 z49 st49 hQ49
        subst l49 y49 z49
        obtain ⟨rfl, Nq49, Kq49⟩ := hQ49
        replace N := Fr.app N Nq49
        refine own_go (B := T49.setTop (mkF m 300 #[.val (.int p1), .val (.int p2), .val (.int p3), .val (.int p4), .val (.int p5), .val (.int bo), .val (.int bn), .val (.int be), .val (.ref b1), .val (.ref b4), .val (.ref b36), .val (.ref b39), .val .null, .val (.ref b41), .val (.ref r43), .val (.ref b36), .val (.int (1 : Int32)), .val (.int (1 : Int32)), .val (.int (1 : Int32)), .unset] [.null])) (fun t k => st49.trans k) ?_
        refine own_go (B := T49.setTop (mkF m 307 #[.val (.int p1), .val (.int p2), .val (.int p3), .val (.int p4), .val (.int p5), .val (.int bo), .val (.int bn), .val (.int be), .val (.ref b1), .val (.ref b4), .val (.ref b36), .val (.ref b39), .val .null, .val (.ref b41), .val (.ref r43), .val (.ref b36), .val (.int (1 : Int32)), .val (.int (1 : Int32)), .val (.int (1 : Int32)), .unset] [(.ref b41)])) (fun t k => ?_) ?_
        · show Steps p.tables e below (T49.setTop (mkF m 300 #[.val (.int p1), .val (.int p2), .val (.int p3), .val (.int p4), .val (.int p5), .val (.int bo), .val (.int bn), .val (.int be), .val (.ref b1), .val (.ref b4), .val (.ref b36), .val (.ref b39), .val .null, .val (.ref b41), .val (.ref r43), .val (.ref b36), .val (.int (1 : Int32)), .val (.int (1 : Int32)), .val (.int (1 : Int32)), .unset] [.null])) _
          refine XS.aload X49.here hx rfl (hb hby at_300) rfl rfl ?_
          show Steps p.tables e below (T49.setTop (mkF m 302 #[.val (.int p1), .val (.int p2), .val (.int p3), .val (.int p4), .val (.int p5), .val (.int bo), .val (.int bn), .val (.int be), .val (.ref b1), .val (.ref b4), .val (.ref b36), .val (.ref b39), .val .null, .val (.ref b41), .val (.ref r43), .val (.ref b36), .val (.int (1 : Int32)), .val (.int (1 : Int32)), .val (.int (1 : Int32)), .unset] [.null, .null])) _
          refine Jvm.RoadKit.acmp (g := (mkF m 302 #[.val (.int p1), .val (.int p2), .val (.int p3), .val (.int p4), .val (.int p5), .val (.int bo), .val (.int bn), .val (.int be), .val (.ref b1), .val (.ref b4), .val (.ref b36), .val (.ref b39), .val .null, .val (.ref b41), .val (.ref r43), .val (.ref b36), .val (.int (1 : Int32)), .val (.int (1 : Int32)), .val (.int (1 : Int32)), .unset] [.null, .null])) X49 hx rfl rfl rfl (pc0 := 302) (pc' := 305) (same := true) rfl (hb hby at_302) rfl (decide_eq_true rfl) (by decide) (by decide) ?_
          show Steps p.tables e below (T49.setTop (mkF m 305 #[.val (.int p1), .val (.int p2), .val (.int p3), .val (.int p4), .val (.int p5), .val (.int bo), .val (.int bn), .val (.int be), .val (.ref b1), .val (.ref b4), .val (.ref b36), .val (.ref b39), .val .null, .val (.ref b41), .val (.ref r43), .val (.ref b36), .val (.int (1 : Int32)), .val (.int (1 : Int32)), .val (.int (1 : Int32)), .unset] [])) _
          refine XS.aload X49.here hx rfl (hb hby at_305) rfl rfl ?_
          show Steps p.tables e below (T49.setTop (mkF m 307 #[.val (.int p1), .val (.int p2), .val (.int p3), .val (.int p4), .val (.int p5), .val (.int bo), .val (.int bn), .val (.int be), .val (.ref b1), .val (.ref b4), .val (.ref b36), .val (.ref b39), .val .null, .val (.ref b41), .val (.ref r43), .val (.ref b36), .val (.int (1 : Int32)), .val (.int (1 : Int32)), .val (.int (1 : Int32)), .unset] [(.ref b41)])) _
          exact k
        -- pc 307: com/example/fieldloom/fieldloom/mapping/Value.position
        obtain ⟨cq50, kq50, q50a, q50b, q50c⟩ := isOf hZ Kq49 A41
        obtain ⟨_, _, ⟨T50, L50, k50, n50⟩, -, X50, ⟨Lc50, hQ50, l50, y50, z50⟩, st50⟩ := X49.virtualBack hx (y := (⟨"com/example/fieldloom/fieldloom/mapping/Value", "position", "()I"⟩ : MethodName)) (z := (⟨"com/example/fieldloom/fieldloom/mapping/Value", "position", "()I"⟩ : MethodName)) hown (mvT hZ (hw _ (List.mem_of_getElem? (i := 73) rfl))) (mvT hZ (hw _ (List.mem_of_getElem? (i := 74) rfl))) (notFace_of_selects (args := #[]) (mvT hZ (hw _ (List.mem_of_getElem? (i := 76) rfl)))) (mvT hZ (hw _ (List.mem_of_getElem? (i := 76) rfl))) (mvT hZ (hw _ (List.mem_of_getElem? (i := 75) rfl))) (by decide) (backOf (W := 0) (rmGp l Z a0 hw [] b41 p3 T43.heap n0 O Gq42_2) hZ (hw _ (List.mem_of_getElem? (i := 77) rfl)) (hw _ (List.mem_of_getElem? (i := 32) rfl)) (by decide) (by decide)) q50a q50c (g := (mkF m 307 #[.val (.int p1), .val (.int p2), .val (.int p3), .val (.int p4), .val (.int p5), .val (.int bo), .val (.int bn), .val (.int be), .val (.ref b1), .val (.ref b4), .val (.ref b36), .val (.ref b39), .val .null, .val (.ref b41), .val (.ref r43), .val (.ref b36), .val (.int (1 : Int32)), .val (.int (1 : Int32)), .val (.int (1 : Int32)), .unset] [(.ref b41)])) rfl (by rw [hml]; rfl) (Steps.refl _) (argsL := []) (rest := []) (lenOf pd_9 rfl) rfl (by show 2 * 0 + _ ≤ _; exact Nat.le_of_eq rfl) (hb hby at_307) (fun _ hWm => ⟨rfl, Kq49, (by decide : 10 + 0 ≤ _), (by decide : 26 + 0 ≤ _)⟩)
        dsimp only [Pt.U, Pt.locs, Pt.cells, Pt.slots] at X50 l50 y50 z50 st50 hQ50
        subst l50 y50 z50
        obtain ⟨rfl, Nq50, Kq50⟩ := hQ50
        replace N := Fr.app N Nq50
        refine own_go (B := T50.setTop (mkF m 310 #[.val (.int p1), .val (.int p2), .val (.int p3), .val (.int p4), .val (.int p5), .val (.int bo), .val (.int bn), .val (.int be), .val (.ref b1), .val (.ref b4), .val (.ref b36), .val (.ref b39), .val .null, .val (.ref b41), .val (.ref r43), .val (.ref b36), .val (.int (1 : Int32)), .val (.int (1 : Int32)), .val (.int (1 : Int32)), .unset] [(.int p3)])) (fun t k => st50.trans k) ?_
        refine own_go (B := T50.setTop (mkF m 346 #[.val (.int p1), .val (.int p2), .val (.int p3), .val (.int p4), .val (.int p5), .val (.int bo), .val (.int bn), .val (.int be), .val (.ref b1), .val (.ref b4), .val (.ref b36), .val (.ref b39), .val .null, .val (.ref b41), .val (.ref r43), .val (.ref b36), .val (.int (1 : Int32)), .val (.int (1 : Int32)), .val (.int (1 : Int32)), .val (.int (1 : Int32))] [(.int (1 : Int32))])) (fun t k => ?_) ?_
        · show Steps p.tables e below (T50.setTop (mkF m 310 #[.val (.int p1), .val (.int p2), .val (.int p3), .val (.int p4), .val (.int p5), .val (.int bo), .val (.int bn), .val (.int be), .val (.ref b1), .val (.ref b4), .val (.ref b36), .val (.ref b39), .val .null, .val (.ref b41), .val (.ref r43), .val (.ref b36), .val (.int (1 : Int32)), .val (.int (1 : Int32)), .val (.int (1 : Int32)), .unset] [(.int p3)])) _
          refine XS.iloadN X50.here hx rfl (hb hby at_310) rfl ?_
          show Steps p.tables e below (T50.setTop (mkF m 311 #[.val (.int p1), .val (.int p2), .val (.int p3), .val (.int p4), .val (.int p5), .val (.int bo), .val (.int bn), .val (.int be), .val (.ref b1), .val (.ref b4), .val (.ref b36), .val (.ref b39), .val .null, .val (.ref b41), .val (.ref r43), .val (.ref b36), .val (.int (1 : Int32)), .val (.int (1 : Int32)), .val (.int (1 : Int32)), .unset] [(.int p3), (.int p3)])) _
          refine XS.icmpNo X50.here hx rfl (hb hby at_311) rfl (teq rfl).2 ?_
          show Steps p.tables e below (T50.setTop (mkF m 314 #[.val (.int p1), .val (.int p2), .val (.int p3), .val (.int p4), .val (.int p5), .val (.int bo), .val (.int bn), .val (.int be), .val (.ref b1), .val (.ref b4), .val (.ref b36), .val (.ref b39), .val .null, .val (.ref b41), .val (.ref r43), .val (.ref b36), .val (.int (1 : Int32)), .val (.int (1 : Int32)), .val (.int (1 : Int32)), .unset] [])) _
          refine XS.iconst X50.here hx rfl (hb hby at_314) ?_
          show Steps p.tables e below (T50.setTop (mkF m 315 #[.val (.int p1), .val (.int p2), .val (.int p3), .val (.int p4), .val (.int p5), .val (.int bo), .val (.int bn), .val (.int be), .val (.ref b1), .val (.ref b4), .val (.ref b36), .val (.ref b39), .val .null, .val (.ref b41), .val (.ref r43), .val (.ref b36), .val (.int (1 : Int32)), .val (.int (1 : Int32)), .val (.int (1 : Int32)), .unset] [(.int (1 : Int32))])) _
          refine XS.goto X50.here hx rfl (pc0 := 315) (pc' := 319) rfl (hb hby at_315) (by decide) (by decide) ?_
          show Steps p.tables e below (T50.setTop (mkF m 319 #[.val (.int p1), .val (.int p2), .val (.int p3), .val (.int p4), .val (.int p5), .val (.int bo), .val (.int bn), .val (.int be), .val (.ref b1), .val (.ref b4), .val (.ref b36), .val (.ref b39), .val .null, .val (.ref b41), .val (.ref r43), .val (.ref b36), .val (.int (1 : Int32)), .val (.int (1 : Int32)), .val (.int (1 : Int32)), .unset] [(.int (1 : Int32))])) _
          refine XS.istore X50.here hx rfl (hb hby at_319) rfl (l' := #[.val (.int p1), .val (.int p2), .val (.int p3), .val (.int p4), .val (.int p5), .val (.int bo), .val (.int bn), .val (.int be), .val (.ref b1), .val (.ref b4), .val (.ref b36), .val (.ref b39), .val .null, .val (.ref b41), .val (.ref r43), .val (.ref b36), .val (.int (1 : Int32)), .val (.int (1 : Int32)), .val (.int (1 : Int32)), .val (.int (1 : Int32))]) rfl ?_
          show Steps p.tables e below (T50.setTop (mkF m 321 #[.val (.int p1), .val (.int p2), .val (.int p3), .val (.int p4), .val (.int p5), .val (.int bo), .val (.int bn), .val (.int be), .val (.ref b1), .val (.ref b4), .val (.ref b36), .val (.ref b39), .val .null, .val (.ref b41), .val (.ref r43), .val (.ref b36), .val (.int (1 : Int32)), .val (.int (1 : Int32)), .val (.int (1 : Int32)), .val (.int (1 : Int32))] [])) _
          refine XS.iload X50.here hx rfl (hb hby at_321) rfl ?_
          show Steps p.tables e below (T50.setTop (mkF m 323 #[.val (.int p1), .val (.int p2), .val (.int p3), .val (.int p4), .val (.int p5), .val (.int bo), .val (.int bn), .val (.int be), .val (.ref b1), .val (.ref b4), .val (.ref b36), .val (.ref b39), .val .null, .val (.ref b41), .val (.ref r43), .val (.ref b36), .val (.int (1 : Int32)), .val (.int (1 : Int32)), .val (.int (1 : Int32)), .val (.int (1 : Int32))] [(.int (1 : Int32))])) _
          refine XS.ifNo X50.here hx rfl (hb hby at_323) rfl ((if0 _ _).trans (feq (by decide)).1) ?_
          show Steps p.tables e below (T50.setTop (mkF m 326 #[.val (.int p1), .val (.int p2), .val (.int p3), .val (.int p4), .val (.int p5), .val (.int bo), .val (.int bn), .val (.int be), .val (.ref b1), .val (.ref b4), .val (.ref b36), .val (.ref b39), .val .null, .val (.ref b41), .val (.ref r43), .val (.ref b36), .val (.int (1 : Int32)), .val (.int (1 : Int32)), .val (.int (1 : Int32)), .val (.int (1 : Int32))] [])) _
          refine XS.iload X50.here hx rfl (hb hby at_326) rfl ?_
          show Steps p.tables e below (T50.setTop (mkF m 328 #[.val (.int p1), .val (.int p2), .val (.int p3), .val (.int p4), .val (.int p5), .val (.int bo), .val (.int bn), .val (.int be), .val (.ref b1), .val (.ref b4), .val (.ref b36), .val (.ref b39), .val .null, .val (.ref b41), .val (.ref r43), .val (.ref b36), .val (.int (1 : Int32)), .val (.int (1 : Int32)), .val (.int (1 : Int32)), .val (.int (1 : Int32))] [(.int (1 : Int32))])) _
          refine XS.ifNo X50.here hx rfl (hb hby at_328) rfl ((if0 _ _).trans (feq (by decide)).1) ?_
          show Steps p.tables e below (T50.setTop (mkF m 331 #[.val (.int p1), .val (.int p2), .val (.int p3), .val (.int p4), .val (.int p5), .val (.int bo), .val (.int bn), .val (.int be), .val (.ref b1), .val (.ref b4), .val (.ref b36), .val (.ref b39), .val .null, .val (.ref b41), .val (.ref r43), .val (.ref b36), .val (.int (1 : Int32)), .val (.int (1 : Int32)), .val (.int (1 : Int32)), .val (.int (1 : Int32))] [])) _
          refine XS.iload X50.here hx rfl (hb hby at_331) rfl ?_
          show Steps p.tables e below (T50.setTop (mkF m 333 #[.val (.int p1), .val (.int p2), .val (.int p3), .val (.int p4), .val (.int p5), .val (.int bo), .val (.int bn), .val (.int be), .val (.ref b1), .val (.ref b4), .val (.ref b36), .val (.ref b39), .val .null, .val (.ref b41), .val (.ref r43), .val (.ref b36), .val (.int (1 : Int32)), .val (.int (1 : Int32)), .val (.int (1 : Int32)), .val (.int (1 : Int32))] [(.int (1 : Int32))])) _
          refine XS.ifNo X50.here hx rfl (hb hby at_333) rfl ((if0 _ _).trans (feq (by decide)).1) ?_
          show Steps p.tables e below (T50.setTop (mkF m 336 #[.val (.int p1), .val (.int p2), .val (.int p3), .val (.int p4), .val (.int p5), .val (.int bo), .val (.int bn), .val (.int be), .val (.ref b1), .val (.ref b4), .val (.ref b36), .val (.ref b39), .val .null, .val (.ref b41), .val (.ref r43), .val (.ref b36), .val (.int (1 : Int32)), .val (.int (1 : Int32)), .val (.int (1 : Int32)), .val (.int (1 : Int32))] [])) _
          refine XS.iload X50.here hx rfl (hb hby at_336) rfl ?_
          show Steps p.tables e below (T50.setTop (mkF m 338 #[.val (.int p1), .val (.int p2), .val (.int p3), .val (.int p4), .val (.int p5), .val (.int bo), .val (.int bn), .val (.int be), .val (.ref b1), .val (.ref b4), .val (.ref b36), .val (.ref b39), .val .null, .val (.ref b41), .val (.ref r43), .val (.ref b36), .val (.int (1 : Int32)), .val (.int (1 : Int32)), .val (.int (1 : Int32)), .val (.int (1 : Int32))] [(.int (1 : Int32))])) _
          refine XS.ifNo X50.here hx rfl (hb hby at_338) rfl ((if0 _ _).trans (feq (by decide)).1) ?_
          show Steps p.tables e below (T50.setTop (mkF m 341 #[.val (.int p1), .val (.int p2), .val (.int p3), .val (.int p4), .val (.int p5), .val (.int bo), .val (.int bn), .val (.int be), .val (.ref b1), .val (.ref b4), .val (.ref b36), .val (.ref b39), .val .null, .val (.ref b41), .val (.ref r43), .val (.ref b36), .val (.int (1 : Int32)), .val (.int (1 : Int32)), .val (.int (1 : Int32)), .val (.int (1 : Int32))] [])) _
          refine XS.iconst X50.here hx rfl (hb hby at_341) ?_
          show Steps p.tables e below (T50.setTop (mkF m 342 #[.val (.int p1), .val (.int p2), .val (.int p3), .val (.int p4), .val (.int p5), .val (.int bo), .val (.int bn), .val (.int be), .val (.ref b1), .val (.ref b4), .val (.ref b36), .val (.ref b39), .val .null, .val (.ref b41), .val (.ref r43), .val (.ref b36), .val (.int (1 : Int32)), .val (.int (1 : Int32)), .val (.int (1 : Int32)), .val (.int (1 : Int32))] [(.int (1 : Int32))])) _
          refine XS.goto X50.here hx rfl (pc0 := 342) (pc' := 346) rfl (hb hby at_342) (by decide) (by decide) ?_
          show Steps p.tables e below (T50.setTop (mkF m 346 #[.val (.int p1), .val (.int p2), .val (.int p3), .val (.int p4), .val (.int p5), .val (.int bo), .val (.int bn), .val (.int be), .val (.ref b1), .val (.ref b4), .val (.ref b36), .val (.ref b39), .val .null, .val (.ref b41), .val (.ref r43), .val (.ref b36), .val (.int (1 : Int32)), .val (.int (1 : Int32)), .val (.int (1 : Int32)), .val (.int (1 : Int32))] [(.int (1 : Int32))])) _
          exact k
        obtain ⟨fs, hr, hrun, hended, hEnd⟩ := X50.leaveW hS (by rw [Kq50]; exact hk) (v := some (.int (1 : Int32))) (fun h => by rw [Bd.returns] at h; cases h)
        refine ⟨_, _, retN X50 hx (t := .boolean) Bd.returns (by simp) (hb hby at_346) hr, hfin _ _ ⟨hrun, hended, _, _, rfl, ?_, hEnd.1, hEnd.2.1, hEnd.2.2.1, hEnd.2.2.2.mono (by decide) (by decide)⟩⟩
        show Q0 Z p1 p2 p3 p4 p5 zc h0 n0 _ T50.heap _
        rw [Kq50]
        exact ⟨rfl, N⟩
      · refine own_go (B := T40.setTop (mkF m 165 #[.val (.int p1), .val (.int p2), .val (.int p3), .val (.int p4), .val (.int p5), .val (.int bo), .val (.int bn), .val (.int be), .val (.ref b1), .val (.ref b4), .val (.ref b36), .val (.ref b39), .unset, .unset, .unset, .unset, .unset, .unset, .unset, .unset] [])) (fun t k => ?_) ?_
        · show Steps p.tables e below (T40.setTop (mkF m 162 #[.val (.int p1), .val (.int p2), .val (.int p3), .val (.int p4), .val (.int p5), .val (.int bo), .val (.int bn), .val (.int be), .val (.ref b1), .val (.ref b4), .val (.ref b36), .val (.ref b39), .unset, .unset, .unset, .unset, .unset, .unset, .unset, .unset] [(.int bo)])) _
          refine XS.ifNo X40.here hx rfl (hb hby at_162) rfl ((if0 _ _).trans (feq ko).1) ?_
          show Steps p.tables e below (T40.setTop (mkF m 165 #[.val (.int p1), .val (.int p2), .val (.int p3), .val (.int p4), .val (.int p5), .val (.int bo), .val (.int bn), .val (.int be), .val (.ref b1), .val (.ref b4), .val (.ref b36), .val (.ref b39), .unset, .unset, .unset, .unset, .unset, .unset, .unset, .unset] [])) _
          exact k
        obtain ⟨T52, h52, X52, e52, E52, A52, D52, -, st52⟩ := newO X40 hx hZ hown (hw _ (List.mem_of_getElem? (i := 78) rfl)) (hw _ (List.mem_of_getElem? (i := 79) rfl)) (hw _ (List.mem_of_getElem? (i := 80) rfl)) rfl (g := (mkF m 165 #[.val (.int p1), .val (.int p2), .val (.int p3), .val (.int p4), .val (.int p5), .val (.int bo), .val (.int bn), .val (.int be), .val (.ref b1), .val (.ref b4), .val (.ref b36), .val (.ref b39), .unset, .unset, .unset, .unset, .unset, .unset, .unset, .unset] [])) rfl (hb hby at_165) (by decide) (by decide)
        obtain ⟨b52, g52⟩ : ∃ z, z = T40.heap.size := ⟨_, rfl⟩
        rw [← g52] at A52 D52 st52
        have lt_b1_b52 : b1 < b52 := Nat.lt_of_lt_of_le G1.lt (Nat.le_of_eq g52.symm)
        have lt_b4_b52 : b4 < b52 := Nat.lt_of_lt_of_le G4.lt (Nat.le_of_eq g52.symm)
        have lt_b36_b52 : b36 < b52 := Nat.lt_of_lt_of_le A36.lt (Nat.le_of_eq g52.symm)
        have lt_b37_b52 : b37 < b52 := Nat.lt_of_lt_of_le G37.lt (Nat.le_of_eq g52.symm)
        have lt_b39_b52 : b39 < b52 := Nat.lt_of_lt_of_le Gq40_0.lt (Nat.le_of_eq g52.symm)
        have g_b52 : n0 ≤ b52 := Nat.le_trans (own_oldsz O) (Nat.le_of_eq g52.symm)
        have m_b52_52 : T38.heap.size ≤ b52 := Nat.le_trans KM.1 (Nat.le_of_eq g52.symm)
        replace G1 := G1.ext E52
        replace G4 := G4.ext E52
        replace A36 := A36.ext E52
        replace G37 := G37.ext E52
        replace Gq40_0 := Gq40_0.ext E52
        replace O := O.ext E52
        replace hk := Nat.le_trans hk E52.1
        replace KM := KM.ext E52
        have F52_tag : Fld Z h52 b52 "com/example/fieldloom/fieldloom/mapping/FieldOccurrence" "tag" "Ljava/lang/String;" .null := D52 (Or.inr (hw _ (List.mem_of_getElem? (i := 86) rfl))) (ty := (.object "java/lang/String")) (by decide)
        have F52_number : Fld Z h52 b52 "com/example/fieldloom/fieldloom/mapping/FieldOccurrence" "number" "I" (.int (0 : Int32)) := D52 (Or.inr (hw _ (List.mem_of_getElem? (i := 88) rfl))) (ty := .int) (by decide)
        have F52_field : Fld Z h52 b52 "com/example/fieldloom/fieldloom/mapping/FieldOccurrence" "field" "Lcom/example/fieldloom/fieldloom/model/DataField;" .null := D52 (Or.inr (hw _ (List.mem_of_getElem? (i := 90) rfl))) (ty := (.object "com/example/fieldloom/fieldloom/model/DataField")) (by decide)
        refine own_go (B := T52.setTop (mkF m 168 #[.val (.int p1), .val (.int p2), .val (.int p3), .val (.int p4), .val (.int p5), .val (.int bo), .val (.int bn), .val (.int be), .val (.ref b1), .val (.ref b4), .val (.ref b36), .val (.ref b39), .unset, .unset, .unset, .unset, .unset, .unset, .unset, .unset] [(.ref b52)])) st52 ?_
        refine own_go (B := T52.setTop (mkF m 173 #[.val (.int p1), .val (.int p2), .val (.int p3), .val (.int p4), .val (.int p5), .val (.int bo), .val (.int bn), .val (.int be), .val (.ref b1), .val (.ref b4), .val (.ref b36), .val (.ref b39), .unset, .unset, .unset, .unset, .unset, .unset, .unset, .unset] [.null, (.int p4), (.ref b39), (.ref b52), (.ref b52)])) (fun t k => ?_) ?_
        · show Steps p.tables e below (T52.setTop (mkF m 168 #[.val (.int p1), .val (.int p2), .val (.int p3), .val (.int p4), .val (.int p5), .val (.int bo), .val (.int bn), .val (.int be), .val (.ref b1), .val (.ref b4), .val (.ref b36), .val (.ref b39), .unset, .unset, .unset, .unset, .unset, .unset, .unset, .unset] [(.ref b52)])) _
          refine XS.dup X52.here hx rfl (hb hby at_168) rfl rfl ?_
          show Steps p.tables e below (T52.setTop (mkF m 169 #[.val (.int p1), .val (.int p2), .val (.int p3), .val (.int p4), .val (.int p5), .val (.int bo), .val (.int bn), .val (.int be), .val (.ref b1), .val (.ref b4), .val (.ref b36), .val (.ref b39), .unset, .unset, .unset, .unset, .unset, .unset, .unset, .unset] [(.ref b52), (.ref b52)])) _
          refine XS.aload X52.here hx rfl (hb hby at_169) rfl rfl ?_
          show Steps p.tables e below (T52.setTop (mkF m 171 #[.val (.int p1), .val (.int p2), .val (.int p3), .val (.int p4), .val (.int p5), .val (.int bo), .val (.int bn), .val (.int be), .val (.ref b1), .val (.ref b4), .val (.ref b36), .val (.ref b39), .unset, .unset, .unset, .unset, .unset, .unset, .unset, .unset] [(.ref b39), (.ref b52), (.ref b52)])) _
          refine XS.iloadN X52.here hx rfl (hb hby at_171) rfl ?_
          show Steps p.tables e below (T52.setTop (mkF m 172 #[.val (.int p1), .val (.int p2), .val (.int p3), .val (.int p4), .val (.int p5), .val (.int bo), .val (.int bn), .val (.int be), .val (.ref b1), .val (.ref b4), .val (.ref b36), .val (.ref b39), .unset, .unset, .unset, .unset, .unset, .unset, .unset, .unset] [(.int p4), (.ref b39), (.ref b52), (.ref b52)])) _
          refine XS.aconstNull X52.here hx rfl (hb hby at_172) ?_
          show Steps p.tables e below (T52.setTop (mkF m 173 #[.val (.int p1), .val (.int p2), .val (.int p3), .val (.int p4), .val (.int p5), .val (.int bo), .val (.int bn), .val (.int be), .val (.ref b1), .val (.ref b4), .val (.ref b36), .val (.ref b39), .unset, .unset, .unset, .unset, .unset, .unset, .unset, .unset] [.null, (.int p4), (.ref b39), (.ref b52), (.ref b52)])) _
          exact k
        -- pc 173: com/example/fieldloom/fieldloom/mapping/FieldOccurrence.<init>
        obtain ⟨_, _, ⟨T53, L53, k53, n53⟩, -, X53, ⟨Lc53, hQ53, l53, y53, z53⟩, st53⟩ := X52.specialBack hx (y := (⟨"com/example/fieldloom/fieldloom/mapping/FieldOccurrence", "<init>", "(Ljava/lang/String;ILcom/example/fieldloom/fieldloom/model/DataField;)V"⟩ : MethodName)) rfl hown (mvT hZ (hw _ (List.mem_of_getElem? (i := 81) rfl))) (mvT hZ (hw _ (List.mem_of_getElem? (i := 82) rfl))) (mvT hZ (hw _ (List.mem_of_getElem? (i := 83) rfl))) (by decide) (backOf (W := 1) (rmFO l Z a0 hw [] b52 b39 p4 h52 n0 O A52 F52_tag F52_number F52_field g_b52) hZ (hw _ (List.mem_of_getElem? (i := 83) rfl)) (hw _ (List.mem_of_getElem? (i := 80) rfl)) (by decide) (by decide)) (g := (mkF m 173 #[.val (.int p1), .val (.int p2), .val (.int p3), .val (.int p4), .val (.int p5), .val (.int bo), .val (.int bn), .val (.int be), .val (.ref b1), .val (.ref b4), .val (.ref b36), .val (.ref b39), .unset, .unset, .unset, .unset, .unset, .unset, .unset, .unset] [.null, (.int p4), (.ref b39), (.ref b52), (.ref b52)])) rfl (by rw [hml]; rfl) (Steps.refl _) (a := b52) (argsL := [(.ref b39), (.int p4), .null]) (rest := [(.ref b52)]) (lenOf pd_10 rfl) rfl (by show 2 * 0 + _ ≤ _; exact Nat.le_of_eq rfl) (hb hby at_173) (fun _ hWm => ⟨rfl, e52, (by decide : 9 + 0 ≤ _), (by decide : 23 + 0 ≤ _)⟩)
        dsimp only [Pt.U, Pt.locs, Pt.cells, Pt.slots] at X53 l53 y53 z53 st53 hQ53
        subst l53 y53 z53
        obtain ⟨rfl, Nq53, Kq53⟩ := hQ53
        replace N := Fr.app N Nq53
        replace G1 := G1.keep Kq53
        replace G4 := G4.keep Kq53
        replace A36 := A36.keep Kq53
        replace G37 := G37.keep Kq53
        replace Gq40_0 := Gq40_0.keep Kq53
        replace A52 := A52.keep Kq53
        clear F52_tag
        clear F52_number
        clear F52_field
        replace O := O.keep Kq53 (allS g_b52 all0)
        replace hk := Nat.le_trans hk Kq53.1
        replace KM := KM.trans Kq53 (allS (Or.inr m_b52_52) all0)
        refine own_go (B := T53.setTop (mkF m 176 #[.val (.int p1), .val (.int p2), .val (.int p3), .val (.int p4), .val (.int p5), .val (.int bo), .val (.int bn), .val (.int be), .val (.ref b1), .val (.ref b4), .val (.ref b36), .val (.ref b39), .unset, .unset, .unset, .unset, .unset, .unset, .unset, .unset] [(.ref b52)])) (fun t k => st53.trans k) ?_
        refine own_go (B := T53.setTop (mkF m 182 #[.val (.int p1), .val (.int p2), .val (.int p3), .val (.int p4), .val (.int p5), .val (.int bo), .val (.int bn), .val (.int be), .val (.ref b1), .val (.ref b4), .val (.ref b36), .val (.ref b39), .val (.ref b52), .unset, .unset, .unset, .unset, .unset, .unset, .unset] [])) (fun t k => ?_) ?_
        · show Steps p.tables e below (T53.setTop (mkF m 176 #[.val (.int p1), .val (.int p2), .val (.int p3), .val (.int p4), .val (.int p5), .val (.int bo), .val (.int bn), .val (.int be), .val (.ref b1), .val (.ref b4), .val (.ref b36), .val (.ref b39), .unset, .unset, .unset, .unset, .unset, .unset, .unset, .unset] [(.ref b52)])) _
          refine XS.goto X53.here hx rfl (pc0 := 176) (pc' := 180) rfl (hb hby at_176) (by decide) (by decide) ?_
          show Steps p.tables e below (T53.setTop (mkF m 180 #[.val (.int p1), .val (.int p2), .val (.int p3), .val (.int p4), .val (.int p5), .val (.int bo), .val (.int bn), .val (.int be), .val (.ref b1), .val (.ref b4), .val (.ref b36), .val (.ref b39), .unset, .unset, .unset, .unset, .unset, .unset, .unset, .unset] [(.ref b52)])) _
          refine XS.astore X53.here hx rfl (hb hby at_180) rfl rfl (l' := #[.val (.int p1), .val (.int p2), .val (.int p3), .val (.int p4), .val (.int p5), .val (.int bo), .val (.int bn), .val (.int be), .val (.ref b1), .val (.ref b4), .val (.ref b36), .val (.ref b39), .val (.ref b52), .unset, .unset, .unset, .unset, .unset, .unset, .unset]) rfl ?_
          show Steps p.tables e below (T53.setTop (mkF m 182 #[.val (.int p1), .val (.int p2), .val (.int p3), .val (.int p4), .val (.int p5), .val (.int bo), .val (.int bn), .val (.int be), .val (.ref b1), .val (.ref b4), .val (.ref b36), .val (.ref b39), .val (.ref b52), .unset, .unset, .unset, .unset, .unset, .unset, .unset] [])) _
          exact k
        obtain ⟨T54, h54, X54, e54, E54, A54, D54, -, st54⟩ := newO X53 hx hZ hown (hw _ (List.mem_of_getElem? (i := 30) rfl)) (hw _ (List.mem_of_getElem? (i := 31) rfl)) (hw _ (List.mem_of_getElem? (i := 32) rfl)) rfl (g := (mkF m 182 #[.val (.int p1), .val (.int p2), .val (.int p3), .val (.int p4), .val (.int p5), .val (.int bo), .val (.int bn), .val (.int be), .val (.ref b1), .val (.ref b4), .val (.ref b36), .val (.ref b39), .val (.ref b52), .unset, .unset, .unset, .unset, .unset, .unset, .unset] [])) rfl (hb hby at_182) (by decide) (by decide)
        obtain ⟨b54, g54⟩ : ∃ z, z = T53.heap.size := ⟨_, rfl⟩
        rw [← g54] at A54 D54 st54
        have lt_b1_b54 : b1 < b54 := Nat.lt_of_lt_of_le G1.lt (Nat.le_of_eq g54.symm)
        have lt_b4_b54 : b4 < b54 := Nat.lt_of_lt_of_le G4.lt (Nat.le_of_eq g54.symm)
        have lt_b36_b54 : b36 < b54 := Nat.lt_of_lt_of_le A36.lt (Nat.le_of_eq g54.symm)
        have lt_b37_b54 : b37 < b54 := Nat.lt_of_lt_of_le G37.lt (Nat.le_of_eq g54.symm)
        have lt_b39_b54 : b39 < b54 := Nat.lt_of_lt_of_le Gq40_0.lt (Nat.le_of_eq g54.symm)
        have lt_b52_b54 : b52 < b54 := Nat.lt_of_lt_of_le A52.lt (Nat.le_of_eq g54.symm)
        have g_b54 : n0 ≤ b54 := Nat.le_trans (own_oldsz O) (Nat.le_of_eq g54.symm)
        have m_b54_54 : T38.heap.size ≤ b54 := Nat.le_trans KM.1 (Nat.le_of_eq g54.symm)
        replace G1 := G1.ext E54
        replace G4 := G4.ext E54
        replace A36 := A36.ext E54
        replace G37 := G37.ext E54
        replace Gq40_0 := Gq40_0.ext E54
        replace A52 := A52.ext E54
        replace O := O.ext E54
        replace hk := Nat.le_trans hk E54.1
        replace KM := KM.ext E54
        have F54_text : Fld Z h54 b54 "com/example/fieldloom/fieldloom/mapping/Value" "text" "Ljava/lang/String;" .null := D54 (Or.inr (hw _ (List.mem_of_getElem? (i := 43) rfl))) (ty := (.object "java/lang/String")) (by decide)
        have F54_occurrence : Fld Z h54 b54 "com/example/fieldloom/fieldloom/mapping/Value" "occurrence" "Lcom/example/fieldloom/fieldloom/mapping/FieldOccurrence;" .null := D54 (Or.inr (hw _ (List.mem_of_getElem? (i := 45) rfl))) (ty := (.object "com/example/fieldloom/fieldloom/mapping/FieldOccurrence")) (by decide)
        have F54_position : Fld Z h54 b54 "com/example/fieldloom/fieldloom/mapping/Value" "position" "I" (.int (0 : Int32)) := D54 (Or.inr (hw _ (List.mem_of_getElem? (i := 47) rfl))) (ty := .int) (by decide)
        refine own_go (B := T54.setTop (mkF m 185 #[.val (.int p1), .val (.int p2), .val (.int p3), .val (.int p4), .val (.int p5), .val (.int bo), .val (.int bn), .val (.int be), .val (.ref b1), .val (.ref b4), .val (.ref b36), .val (.ref b39), .val (.ref b52), .unset, .unset, .unset, .unset, .unset, .unset, .unset] [(.ref b54)])) st54 ?_
        refine own_go (B := T54.setTop (mkF m 191 #[.val (.int p1), .val (.int p2), .val (.int p3), .val (.int p4), .val (.int p5), .val (.int bo), .val (.int bn), .val (.int be), .val (.ref b1), .val (.ref b4), .val (.ref b36), .val (.ref b39), .val (.ref b52), .unset, .unset, .unset, .unset, .unset, .unset, .unset] [(.int p3), (.ref b52), (.ref b39), (.ref b54), (.ref b54)])) (fun t k => ?_) ?_
        · show Steps p.tables e below (T54.setTop (mkF m 185 #[.val (.int p1), .val (.int p2), .val (.int p3), .val (.int p4), .val (.int p5), .val (.int bo), .val (.int bn), .val (.int be), .val (.ref b1), .val (.ref b4), .val (.ref b36), .val (.ref b39), .val (.ref b52), .unset, .unset, .unset, .unset, .unset, .unset, .unset] [(.ref b54)])) _
          refine XS.dup X54.here hx rfl (hb hby at_185) rfl rfl ?_
          show Steps p.tables e below (T54.setTop (mkF m 186 #[.val (.int p1), .val (.int p2), .val (.int p3), .val (.int p4), .val (.int p5), .val (.int bo), .val (.int bn), .val (.int be), .val (.ref b1), .val (.ref b4), .val (.ref b36), .val (.ref b39), .val (.ref b52), .unset, .unset, .unset, .unset, .unset, .unset, .unset] [(.ref b54), (.ref b54)])) _
          refine XS.aload X54.here hx rfl (hb hby at_186) rfl rfl ?_
          show Steps p.tables e below (T54.setTop (mkF m 188 #[.val (.int p1), .val (.int p2), .val (.int p3), .val (.int p4), .val (.int p5), .val (.int bo), .val (.int bn), .val (.int be), .val (.ref b1), .val (.ref b4), .val (.ref b36), .val (.ref b39), .val (.ref b52), .unset, .unset, .unset, .unset, .unset, .unset, .unset] [(.ref b39), (.ref b54), (.ref b54)])) _
          refine XS.aload X54.here hx rfl (hb hby at_188) rfl rfl ?_
          show Steps p.tables e below (T54.setTop (mkF m 190 #[.val (.int p1), .val (.int p2), .val (.int p3), .val (.int p4), .val (.int p5), .val (.int bo), .val (.int bn), .val (.int be), .val (.ref b1), .val (.ref b4), .val (.ref b36), .val (.ref b39), .val (.ref b52), .unset, .unset, .unset, .unset, .unset, .unset, .unset] [(.ref b52), (.ref b39), (.ref b54), (.ref b54)])) _
          refine XS.iloadN X54.here hx rfl (hb hby at_190) rfl ?_
          show Steps p.tables e below (T54.setTop (mkF m 191 #[.val (.int p1), .val (.int p2), .val (.int p3), .val (.int p4), .val (.int p5), .val (.int bo), .val (.int bn), .val (.int be), .val (.ref b1), .val (.ref b4), .val (.ref b36), .val (.ref b39), .val (.ref b52), .unset, .unset, .unset, .unset, .unset, .unset, .unset] [(.int p3), (.ref b52), (.ref b39), (.ref b54), (.ref b54)])) _
          exact k
        -- pc 191: com/example/fieldloom/fieldloom/mapping/Value.<init>
        obtain ⟨_, _, ⟨T55, L55, k55, n55⟩, -, X55, ⟨Lc55, hQ55, l55, y55, z55⟩, st55⟩ := X54.specialBack hx (y := (⟨"com/example/fieldloom/fieldloom/mapping/Value", "<init>", "(Ljava/lang/String;Lcom/example/fieldloom/fieldloom/mapping/FieldOccurrence;I)V"⟩ : MethodName)) rfl hown (mvT hZ (hw _ (List.mem_of_getElem? (i := 33) rfl))) (mvT hZ (hw _ (List.mem_of_getElem? (i := 34) rfl))) (mvT hZ (hw _ (List.mem_of_getElem? (i := 35) rfl))) (by decide) (backOf (W := 1) (rmV3 l Z a0 hw [] b54 (.ref b39) (.ref b52) p3 h54 n0 O A54 F54_text F54_occurrence F54_position g_b54 rfl rfl) hZ (hw _ (List.mem_of_getElem? (i := 35) rfl)) (hw _ (List.mem_of_getElem? (i := 32) rfl)) (by decide) (by decide)) (g := (mkF m 191 #[.val (.int p1), .val (.int p2), .val (.int p3), .val (.int p4), .val (.int p5), .val (.int bo), .val (.int bn), .val (.int be), .val (.ref b1), .val (.ref b4), .val (.ref b36), .val (.ref b39), .val (.ref b52), .unset, .unset, .unset, .unset, .unset, .unset, .unset] [(.int p3), (.ref b52), (.ref b39), (.ref b54), (.ref b54)])) rfl (by rw [hml]; rfl) (Steps.refl _) (a := b54) (argsL := [(.ref b39), (.ref b52), (.int p3)]) (rest := [(.ref b54)]) (lenOf pd_2 rfl) rfl (by show 2 * 0 + _ ≤ _; exact Nat.le_of_eq rfl) (hb hby at_191) (fun _ hWm => ⟨rfl, e54, (by decide : 10 + 0 ≤ _), (by decide : 26 + 0 ≤ _)⟩)
        dsimp only [Pt.U, Pt.locs, Pt.cells, Pt.slots] at X55 l55 y55 z55 st55 hQ55
        subst l55 y55 z55
        obtain ⟨rfl, Nq55, Kq55, Gq55_0, Gq55_1, Gq55_2⟩ := hQ55
        replace N := Fr.app N Nq55
        replace G1 := G1.keep Kq55
        replace G4 := G4.keep Kq55
        replace A36 := A36.keep Kq55
        replace G37 := G37.keep Kq55
        replace Gq40_0 := Gq40_0.keep Kq55
        replace A52 := A52.keep Kq55
        replace A54 := A54.keep Kq55
        clear F54_text
        clear F54_occurrence
        clear F54_position
        replace O := O.keep Kq55 (allS g_b54 all0)
        replace hk := Nat.le_trans hk Kq55.1
        replace KM := KM.trans Kq55 (allS (Or.inr m_b54_54) all0)
        refine own_go (B := T55.setTop (mkF m 194 #[.val (.int p1), .val (.int p2), .val (.int p3), .val (.int p4), .val (.int p5), .val (.int bo), .val (.int bn), .val (.int be), .val (.ref b1), .val (.ref b4), .val (.ref b36), .val (.ref b39), .val (.ref b52), .unset, .unset, .unset, .unset, .unset, .unset, .unset] [(.ref b54)])) (fun t k => st55.trans k) ?_
        refine own_go (B := T55.setTop (mkF m 200 #[.val (.int p1), .val (.int p2), .val (.int p3), .val (.int p4), .val (.int p5), .val (.int bo), .val (.int bn), .val (.int be), .val (.ref b1), .val (.ref b4), .val (.ref b36), .val (.ref b39), .val (.ref b52), .val (.ref b54), .unset, .unset, .unset, .unset, .unset, .unset] [(.ref b36), (.ref b54)])) (fun t k => ?_) ?_
        · show Steps p.tables e below (T55.setTop (mkF m 194 #[.val (.int p1), .val (.int p2), .val (.int p3), .val (.int p4), .val (.int p5), .val (.int bo), .val (.int bn), .val (.int be), .val (.ref b1), .val (.ref b4), .val (.ref b36), .val (.ref b39), .val (.ref b52), .unset, .unset, .unset, .unset, .unset, .unset, .unset] [(.ref b54)])) _
          refine XS.astore X55.here hx rfl (hb hby at_194) rfl rfl (l' := #[.val (.int p1), .val (.int p2), .val (.int p3), .val (.int p4), .val (.int p5), .val (.int bo), .val (.int bn), .val (.int be), .val (.ref b1), .val (.ref b4), .val (.ref b36), .val (.ref b39), .val (.ref b52), .val (.ref b54), .unset, .unset, .unset, .unset, .unset, .unset]) rfl ?_
          show Steps p.tables e below (T55.setTop (mkF m 196 #[.val (.int p1), .val (.int p2), .val (.int p3), .val (.int p4), .val (.int p5), .val (.int bo), .val (.int bn), .val (.int be), .val (.ref b1), .val (.ref b4), .val (.ref b36), .val (.ref b39), .val (.ref b52), .val (.ref b54), .unset, .unset, .unset, .unset, .unset, .unset] [])) _
          refine XS.aload X55.here hx rfl (hb hby at_196) rfl rfl ?_
          show Steps p.tables e below (T55.setTop (mkF m 198 #[.val (.int p1), .val (.int p2), .val (.int p3), .val (.int p4), .val (.int p5), .val (.int bo), .val (.int bn), .val (.int be), .val (.ref b1), .val (.ref b4), .val (.ref b36), .val (.ref b39), .val (.ref b52), .val (.ref b54), .unset, .unset, .unset, .unset, .unset, .unset] [(.ref b54)])) _
          refine XS.aload X55.here hx rfl (hb hby at_198) rfl rfl ?_
          show Steps p.tables e below (T55.setTop (mkF m 200 #[.val (.int p1), .val (.int p2), .val (.int p3), .val (.int p4), .val (.int p5), .val (.int bo), .val (.int bn), .val (.int be), .val (.ref b1), .val (.ref b4), .val (.ref b36), .val (.ref b39), .val (.ref b52), .val (.ref b54), .unset, .unset, .unset, .unset, .unset, .unset] [(.ref b36), (.ref b54)])) _
          exact k
        -- pc 200: com/example/fieldloom/fieldloom/mapping/Value.withText
        obtain ⟨cq56, kq56, q56a, q56b, q56c⟩ := isOf hZ rfl A54
        obtain ⟨_, _, ⟨T56, L56, k56, n56⟩, -, X56, ⟨Lc56, hQ56, l56, y56, z56⟩, st56⟩ := X55.virtualBack hx (y := (⟨"com/example/fieldloom/fieldloom/mapping/Value", "withText", "(Ljava/lang/String;)Lcom/example/fieldloom/fieldloom/mapping/Value;"⟩ : MethodName)) (z := (⟨"com/example/fieldloom/fieldloom/mapping/Value", "withText", "(Ljava/lang/String;)Lcom/example/fieldloom/fieldloom/mapping/Value;"⟩ : MethodName)) hown (mvT hZ (hw _ (List.mem_of_getElem? (i := 48) rfl))) (mvT hZ (hw _ (List.mem_of_getElem? (i := 49) rfl))) (notFace_of_selects (args := #[]) (mvT hZ (hw _ (List.mem_of_getElem? (i := 51) rfl)))) (mvT hZ (hw _ (List.mem_of_getElem? (i := 51) rfl))) (mvT hZ (hw _ (List.mem_of_getElem? (i := 50) rfl))) (by decide) (backOf (W := 0) (rmWT l Z a0 hw [] b54 (.ref b36) (.ref b52) T55.heap n0 O Gq55_1 rfl rfl) hZ (hw _ (List.mem_of_getElem? (i := 52) rfl)) (hw _ (List.mem_of_getElem? (i := 32) rfl)) (by decide) (by decide)) q56a q56c (g := (mkF m 200 #[.val (.int p1), .val (.int p2), .val (.int p3), .val (.int p4), .val (.int p5), .val (.int bo), .val (.int bn), .val (.int be), .val (.ref b1), .val (.ref b4), .val (.ref b36), .val (.ref b39), .val (.ref b52), .val (.ref b54), .unset, .unset, .unset, .unset, .unset, .unset] [(.ref b36), (.ref b54)])) rfl (by rw [hml]; rfl) (Steps.refl _) (argsL := [(.ref b36)]) (rest := []) (lenOf pd_5 rfl) rfl (by show 2 * 0 + _ ≤ _; exact Nat.le_of_eq rfl) (hb hby at_200) (fun _ hWm => ⟨rfl, rfl, (by decide : 10 + 1 ≤ _), (by decide : 26 + 3 ≤ _)⟩)
        dsimp only [Pt.U, Pt.locs, Pt.cells, Pt.slots] at X56 l56 y56 z56 st56 hQ56
        subst l56 y56 z56
        obtain ⟨r56, rfl, Nq56, Kq56, fq56_r, Gq56_0, Gq56_1, Gq56_2, Gq56_3⟩ := hQ56
        replace N := Fr.app N Nq56
        have lt_b1_r56 : b1 < r56 := Nat.lt_of_lt_of_le G1.lt fq56_r
        have lt_b4_r56 : b4 < r56 := Nat.lt_of_lt_of_le G4.lt fq56_r
        have lt_b36_r56 : b36 < r56 := Nat.lt_of_lt_of_le A36.lt fq56_r
        have lt_b37_r56 : b37 < r56 := Nat.lt_of_lt_of_le G37.lt fq56_r
        have lt_b39_r56 : b39 < r56 := Nat.lt_of_lt_of_le Gq40_0.lt fq56_r
        have lt_b52_r56 : b52 < r56 := Nat.lt_of_lt_of_le A52.lt fq56_r
        have lt_b54_r56 : b54 < r56 := Nat.lt_of_lt_of_le A54.lt fq56_r
        have g_r56 : n0 ≤ r56 := Nat.le_trans (own_oldsz O) fq56_r
        have m_r56_56 : T38.heap.size ≤ r56 := Nat.le_trans KM.1 fq56_r
        replace G1 := G1.keep Kq56
        replace G4 := G4.keep Kq56
        replace A36 := A36.keep Kq56
        replace G37 := G37.keep Kq56
        replace Gq40_0 := Gq40_0.keep Kq56
        replace A52 := A52.keep Kq56
        replace A54 := A54.keep Kq56
        replace Gq55_0 := Gq55_0.keep Kq56 nin0
        replace Gq55_1 := Gq55_1.keep Kq56 nin0
        replace Gq55_2 := Gq55_2.keep Kq56 nin0
        replace O := O.keep Kq56 all0
        replace hk := Nat.le_trans hk Kq56.1
        replace KM := KM.trans Kq56 all0
        refine own_go (B := T56.setTop (mkF m 203 #[.val (.int p1), .val (.int p2), .val (.int p3), .val (.int p4), .val (.int p5), .val (.int bo), .val (.int bn), .val (.int be), .val (.ref b1), .val (.ref b4), .val (.ref b36), .val (.ref b39), .val (.ref b52), .val (.ref b54), .unset, .unset, .unset, .unset, .unset, .unset] [(.ref r56)])) (fun t k => st56.trans k) ?_
        refine own_go (B := T56.setTop (mkF m 207 #[.val (.int p1), .val (.int p2), .val (.int p3), .val (.int p4), .val (.int p5), .val (.int bo), .val (.int bn), .val (.int be), .val (.ref b1), .val (.ref b4), .val (.ref b36), .val (.ref b39), .val (.ref b52), .val (.ref b54), .val (.ref r56), .unset, .unset, .unset, .unset, .unset] [(.ref r56)])) (fun t k => ?_) ?_
        · show Steps p.tables e below (T56.setTop (mkF m 203 #[.val (.int p1), .val (.int p2), .val (.int p3), .val (.int p4), .val (.int p5), .val (.int bo), .val (.int bn), .val (.int be), .val (.ref b1), .val (.ref b4), .val (.ref b36), .val (.ref b39), .val (.ref b52), .val (.ref b54), .unset, .unset, .unset, .unset, .unset, .unset] [(.ref r56)])) _
          refine XS.astore X56.here hx rfl (hb hby at_203) rfl rfl (l' := #[.val (.int p1), .val (.int p2), .val (.int p3), .val (.int p4), .val (.int p5), .val (.int bo), .val (.int bn), .val (.int be), .val (.ref b1), .val (.ref b4), .val (.ref b36), .val (.ref b39), .val (.ref b52), .val (.ref b54), .val (.ref r56), .unset, .unset, .unset, .unset, .unset]) rfl ?_
          show Steps p.tables e below (T56.setTop (mkF m 205 #[.val (.int p1), .val (.int p2), .val (.int p3), .val (.int p4), .val (.int p5), .val (.int bo), .val (.int bn), .val (.int be), .val (.ref b1), .val (.ref b4), .val (.ref b36), .val (.ref b39), .val (.ref b52), .val (.ref b54), .val (.ref r56), .unset, .unset, .unset, .unset, .unset] [])) _
          refine XS.aload X56.here hx rfl (hb hby at_205) rfl rfl ?_
          show Steps p.tables e below (T56.setTop (mkF m 207 #[.val (.int p1), .val (.int p2), .val (.int p3), .val (.int p4), .val (.int p5), .val (.int bo), .val (.int bn), .val (.int be), .val (.ref b1), .val (.ref b4), .val (.ref b36), .val (.ref b39), .val (.ref b52), .val (.ref b54), .val (.ref r56), .unset, .unset, .unset, .unset, .unset] [(.ref r56)])) _
          exact k
        -- pc 207: com/example/fieldloom/fieldloom/mapping/Value.text
        obtain ⟨cq57, kq57, q57a, q57b, q57c⟩ := isOf hZ rfl Gq56_0
        obtain ⟨_, _, ⟨T57, L57, k57, n57⟩, -, X57, ⟨Lc57, hQ57, l57, y57, z57⟩, st57⟩ := X56.virtualBack hx (y := (⟨"com/example/fieldloom/fieldloom/mapping/Value", "text", "()Ljava/lang/String;"⟩ : MethodName)) (z := (⟨"com/example/fieldloom/fieldloom/mapping/Value", "text", "()Ljava/lang/String;"⟩ : MethodName)) hown (mvT hZ (hw _ (List.mem_of_getElem? (i := 58) rfl))) (mvT hZ (hw _ (List.mem_of_getElem? (i := 59) rfl))) (notFace_of_selects (args := #[]) (mvT hZ (hw _ (List.mem_of_getElem? (i := 61) rfl)))) (mvT hZ (hw _ (List.mem_of_getElem? (i := 61) rfl))) (mvT hZ (hw _ (List.mem_of_getElem? (i := 60) rfl))) (by decide) (backOf (W := 0) (rmGt l Z a0 hw [] r56 (.ref b36) T56.heap n0 O Gq56_1 rfl) hZ (hw _ (List.mem_of_getElem? (i := 62) rfl)) (hw _ (List.mem_of_getElem? (i := 32) rfl)) (by decide) (by decide)) q57a q57c (g := (mkF m 207 #[.val (.int p1), .val (.int p2), .val (.int p3), .val (.int p4), .val (.int p5), .val (.int bo), .val (.int bn), .val (.int be), .val (.ref b1), .val (.ref b4), .val (.ref b36), .val (.ref b39), .val (.ref b52), .val (.ref b54), .val (.ref r56), .unset, .unset, .unset, .unset, .unset] [(.ref r56)])) rfl (by rw [hml]; rfl) (Steps.refl _) (argsL := []) (rest := []) (lenOf pd_6 rfl) rfl (by show 2 * 0 + _ ≤ _; exact Nat.le_of_eq rfl) (hb hby at_207) (fun _ hWm => ⟨rfl, rfl, (by decide : 11 + 0 ≤ _), (by decide : 29 + 0 ≤ _)⟩)
        dsimp only [Pt.U, Pt.locs, Pt.cells, Pt.slots] at X57 l57 y57 z57 st57 hQ57
        subst l57 y57 z57
        obtain ⟨rfl, Nq57, Kq57⟩ := hQ57
        replace N := Fr.app N Nq57
        refine own_go (B := T57.setTop (mkF m 210 #[.val (.int p1), .val (.int p2), .val (.int p3), .val (.int p4), .val (.int p5), .val (.int bo), .val (.int bn), .val (.int be), .val (.ref b1), .val (.ref b4), .val (.ref b36), .val (.ref b39), .val (.ref b52), .val (.ref b54), .val (.ref r56), .unset, .unset, .unset, .unset, .unset] [(.ref b36)])) (fun t k => st57.trans k) ?_
        refine own_go (B := T57.setTop (mkF m 239 #[.val (.int p1), .val (.int p2), .val (.int p3), .val (.int p4), .val (.int p5), .val (.int bo), .val (.int bn), .val (.int be), .val (.ref b1), .val (.ref b4), .val (.ref b36), .val (.ref b39), .val (.ref b52), .val (.ref b54), .val (.ref r56), .val (.ref b36), .unset, .unset, .unset, .unset] [(.ref b36), (.ref b36)])) (fun t k => ?_) ?_
        · show Steps p.tables e below (T57.setTop (mkF m 210 #[.val (.int p1), .val (.int p2), .val (.int p3), .val (.int p4), .val (.int p5), .val (.int bo), .val (.int bn), .val (.int be), .val (.ref b1), .val (.ref b4), .val (.ref b36), .val (.ref b39), .val (.ref b52), .val (.ref b54), .val (.ref r56), .unset, .unset, .unset, .unset, .unset] [(.ref b36)])) _
          refine XS.astore X57.here hx rfl (hb hby at_210) rfl rfl (l' := #[.val (.int p1), .val (.int p2), .val (.int p3), .val (.int p4), .val (.int p5), .val (.int bo), .val (.int bn), .val (.int be), .val (.ref b1), .val (.ref b4), .val (.ref b36), .val (.ref b39), .val (.ref b52), .val (.ref b54), .val (.ref r56), .val (.ref b36), .unset, .unset, .unset, .unset]) rfl ?_
          show Steps p.tables e below (T57.setTop (mkF m 212 #[.val (.int p1), .val (.int p2), .val (.int p3), .val (.int p4), .val (.int p5), .val (.int bo), .val (.int bn), .val (.int be), .val (.ref b1), .val (.ref b4), .val (.ref b36), .val (.ref b39), .val (.ref b52), .val (.ref b54), .val (.ref r56), .val (.ref b36), .unset, .unset, .unset, .unset] [])) _
          refine XS.aload X57.here hx rfl (hb hby at_212) rfl rfl ?_
          show Steps p.tables e below (T57.setTop (mkF m 214 #[.val (.int p1), .val (.int p2), .val (.int p3), .val (.int p4), .val (.int p5), .val (.int bo), .val (.int bn), .val (.int be), .val (.ref b1), .val (.ref b4), .val (.ref b36), .val (.ref b39), .val (.ref b52), .val (.ref b54), .val (.ref r56), .val (.ref b36), .unset, .unset, .unset, .unset] [(.ref b36)])) _
          refine XT.ifnonnullYes X57.here hx rfl (pc0 := 214) (pc' := 230) rfl (hb hby at_214) rfl (by decide) (by decide) ?_
          show Steps p.tables e below (T57.setTop (mkF m 230 #[.val (.int p1), .val (.int p2), .val (.int p3), .val (.int p4), .val (.int p5), .val (.int bo), .val (.int bn), .val (.int be), .val (.ref b1), .val (.ref b4), .val (.ref b36), .val (.ref b39), .val (.ref b52), .val (.ref b54), .val (.ref r56), .val (.ref b36), .unset, .unset, .unset, .unset] [])) _
          refine XS.aload X57.here hx rfl (hb hby at_230) rfl rfl ?_
          show Steps p.tables e below (T57.setTop (mkF m 232 #[.val (.int p1), .val (.int p2), .val (.int p3), .val (.int p4), .val (.int p5), .val (.int bo), .val (.int bn), .val (.int be), .val (.ref b1), .val (.ref b4), .val (.ref b36), .val (.ref b39), .val (.ref b52), .val (.ref b54), .val (.ref r56), .val (.ref b36), .unset, .unset, .unset, .unset] [(.ref b36)])) _
          refine XS.ifnullNo X57.here hx rfl (hb hby at_232) rfl ?_
          show Steps p.tables e below (T57.setTop (mkF m 235 #[.val (.int p1), .val (.int p2), .val (.int p3), .val (.int p4), .val (.int p5), .val (.int bo), .val (.int bn), .val (.int be), .val (.ref b1), .val (.ref b4), .val (.ref b36), .val (.ref b39), .val (.ref b52), .val (.ref b54), .val (.ref r56), .val (.ref b36), .unset, .unset, .unset, .unset] [])) _
          refine XS.aload X57.here hx rfl (hb hby at_235) rfl rfl ?_
          show Steps p.tables e below (T57.setTop (mkF m 237 #[.val (.int p1), .val (.int p2), .val (.int p3), .val (.int p4), .val (.int p5), .val (.int bo), .val (.int bn), .val (.int be), .val (.ref b1), .val (.ref b4), .val (.ref b36), .val (.ref b39), .val (.ref b52), .val (.ref b54), .val (.ref r56), .val (.ref b36), .unset, .unset, .unset, .unset] [(.ref b36)])) _
          refine XS.aload X57.here hx rfl (hb hby at_237) rfl rfl ?_
          show Steps p.tables e below (T57.setTop (mkF m 239 #[.val (.int p1), .val (.int p2), .val (.int p3), .val (.int p4), .val (.int p5), .val (.int bo), .val (.int bn), .val (.int be), .val (.ref b1), .val (.ref b4), .val (.ref b36), .val (.ref b39), .val (.ref b52), .val (.ref b54), .val (.ref r56), .val (.ref b36), .unset, .unset, .unset, .unset] [(.ref b36), (.ref b36)])) _
          exact k
        -- pc 239: java/lang/String.equals
        obtain ⟨cq58, kq58, q58a, q58b, q58c⟩ := isOf hZ Kq57 A36
        obtain ⟨_, _, ⟨T58, L58, k58, n58⟩, -, X58, ⟨Lc58, hQ58, l58, y58, z58⟩, st58⟩ := X57.virtualBack hx (y := (⟨"java/lang/String", "equals", "(Ljava/lang/Object;)Z"⟩ : MethodName)) (z := (⟨"java/lang/String", "equals", "(Ljava/lang/Object;)Z"⟩ : MethodName)) hown (mvT hZ (hw _ (List.mem_of_getElem? (i := 63) rfl))) (mvT hZ (hw _ (List.mem_of_getElem? (i := 64) rfl))) (notFace_of_selects (args := #[]) (mvT hZ (hw _ (List.mem_of_getElem? (i := 66) rfl)))) (mvT hZ (hw _ (List.mem_of_getElem? (i := 66) rfl))) (mvT hZ (hw _ (List.mem_of_getElem? (i := 65) rfl))) (by decide) (backOf (W := 0) (rmEqS l Z a0 hw [] b36 T56.heap n0 O ) hZ (hw _ (List.mem_of_getElem? (i := 67) rfl)) (hw _ (List.mem_of_getElem? (i := 3) rfl)) (by decide) (by decide)) q58a q58c (g := (mkF m 239 #[.val (.int p1), .val (.int p2), .val (.int p3), .val (.int p4), .val (.int p5), .val (.int bo), .val (.int bn), .val (.int be), .val (.ref b1), .val (.ref b4), .val (.ref b36), .val (.ref b39), .val (.ref b52), .val (.ref b54), .val (.ref r56), .val (.ref b36), .unset, .unset, .unset, .unset] [(.ref b36), (.ref b36)])) rfl (by rw [hml]; rfl) (Steps.refl _) (argsL := [(.ref b36)]) (rest := []) (lenOf pd_7 rfl) rfl (by show 2 * 0 + _ ≤ _; exact Nat.le_of_eq rfl) (hb hby at_239) (fun _ hWm => ⟨rfl, Kq57, (by decide : 11 + 0 ≤ _), (by decide : 29 + 0 ≤ _)⟩)
        dsimp only [Pt.U, Pt.locs, Pt.cells, Pt.slots] at X58 l58 y58 z58 st58 hQ58
        subst l58 y58 z58
        obtain ⟨rfl, Nq58, Kq58⟩ := hQ58
        replace N := Fr.app N Nq58
        refine own_go (B := T58.setTop (mkF m 242 #[.val (.int p1), .val (.int p2), .val (.int p3), .val (.int p4), .val (.int p5), .val (.int bo), .val (.int bn), .val (.int be), .val (.ref b1), .val (.ref b4), .val (.ref b36), .val (.ref b39), .val (.ref b52), .val (.ref b54), .val (.ref r56), .val (.ref b36), .unset, .unset, .unset, .unset] [(.int (1 : Int32))])) (fun t k => st58.trans k) ?_
        refine own_go (B := T58.setTop (mkF m 254 #[.val (.int p1), .val (.int p2), .val (.int p3), .val (.int p4), .val (.int p5), .val (.int bo), .val (.int bn), .val (.int be), .val (.ref b1), .val (.ref b4), .val (.ref b36), .val (.ref b39), .val (.ref b52), .val (.ref b54), .val (.ref r56), .val (.ref b36), .val (.int (1 : Int32)), .unset, .unset, .unset] [(.ref r56)])) (fun t k => ?_) ?_
        · show Steps p.tables e below (T58.setTop (mkF m 242 #[.val (.int p1), .val (.int p2), .val (.int p3), .val (.int p4), .val (.int p5), .val (.int bo), .val (.int bn), .val (.int be), .val (.ref b1), .val (.ref b4), .val (.ref b36), .val (.ref b39), .val (.ref b52), .val (.ref b54), .val (.ref r56), .val (.ref b36), .unset, .unset, .unset, .unset] [(.int (1 : Int32))])) _
          refine XS.ifNo X58.here hx rfl (hb hby at_242) rfl ((if0 _ _).trans (feq (by decide)).1) ?_
          show Steps p.tables e below (T58.setTop (mkF m 245 #[.val (.int p1), .val (.int p2), .val (.int p3), .val (.int p4), .val (.int p5), .val (.int bo), .val (.int bn), .val (.int be), .val (.ref b1), .val (.ref b4), .val (.ref b36), .val (.ref b39), .val (.ref b52), .val (.ref b54), .val (.ref r56), .val (.ref b36), .unset, .unset, .unset, .unset] [])) _
          refine XS.iconst X58.here hx rfl (hb hby at_245) ?_
          show Steps p.tables e below (T58.setTop (mkF m 246 #[.val (.int p1), .val (.int p2), .val (.int p3), .val (.int p4), .val (.int p5), .val (.int bo), .val (.int bn), .val (.int be), .val (.ref b1), .val (.ref b4), .val (.ref b36), .val (.ref b39), .val (.ref b52), .val (.ref b54), .val (.ref r56), .val (.ref b36), .unset, .unset, .unset, .unset] [(.int (1 : Int32))])) _
          refine XS.goto X58.here hx rfl (pc0 := 246) (pc' := 250) rfl (hb hby at_246) (by decide) (by decide) ?_
          show Steps p.tables e below (T58.setTop (mkF m 250 #[.val (.int p1), .val (.int p2), .val (.int p3), .val (.int p4), .val (.int p5), .val (.int bo), .val (.int bn), .val (.int be), .val (.ref b1), .val (.ref b4), .val (.ref b36), .val (.ref b39), .val (.ref b52), .val (.ref b54), .val (.ref r56), .val (.ref b36), .unset, .unset, .unset, .unset] [(.int (1 : Int32))])) _
          refine XS.istore X58.here hx rfl (hb hby at_250) rfl (l' := #[.val (.int p1), .val (.int p2), .val (.int p3), .val (.int p4), .val (.int p5), .val (.int bo), .val (.int bn), .val (.int be), .val (.ref b1), .val (.ref b4), .val (.ref b36), .val (.ref b39), .val (.ref b52), .val (.ref b54), .val (.ref r56), .val (.ref b36), .val (.int (1 : Int32)), .unset, .unset, .unset]) rfl ?_
          show Steps p.tables e below (T58.setTop (mkF m 252 #[.val (.int p1), .val (.int p2), .val (.int p3), .val (.int p4), .val (.int p5), .val (.int bo), .val (.int bn), .val (.int be), .val (.ref b1), .val (.ref b4), .val (.ref b36), .val (.ref b39), .val (.ref b52), .val (.ref b54), .val (.ref r56), .val (.ref b36), .val (.int (1 : Int32)), .unset, .unset, .unset] [])) _
          refine XS.aload X58.here hx rfl (hb hby at_252) rfl rfl ?_
          show Steps p.tables e below (T58.setTop (mkF m 254 #[.val (.int p1), .val (.int p2), .val (.int p3), .val (.int p4), .val (.int p5), .val (.int bo), .val (.int bn), .val (.int be), .val (.ref b1), .val (.ref b4), .val (.ref b36), .val (.ref b39), .val (.ref b52), .val (.ref b54), .val (.ref r56), .val (.ref b36), .val (.int (1 : Int32)), .unset, .unset, .unset] [(.ref r56)])) _
          exact k
        -- pc 254: com/example/fieldloom/fieldloom/mapping/Value.occurrence
        obtain ⟨cq59, kq59, q59a, q59b, q59c⟩ := isOf hZ Kq58 Gq56_0
        obtain ⟨_, _, ⟨T59, L59, k59, n59⟩, -, X59, ⟨Lc59, hQ59, l59, y59, z59⟩, st59⟩ := X58.virtualBack hx (y := (⟨"com/example/fieldloom/fieldloom/mapping/Value", "occurrence", "()Lcom/example/fieldloom/fieldloom/mapping/FieldOccurrence;"⟩ : MethodName)) (z := (⟨"com/example/fieldloom/fieldloom/mapping/Value", "occurrence", "()Lcom/example/fieldloom/fieldloom/mapping/FieldOccurrence;"⟩ : MethodName)) hown (mvT hZ (hw _ (List.mem_of_getElem? (i := 68) rfl))) (mvT hZ (hw _ (List.mem_of_getElem? (i := 69) rfl))) (notFace_of_selects (args := #[]) (mvT hZ (hw _ (List.mem_of_getElem? (i := 71) rfl)))) (mvT hZ (hw _ (List.mem_of_getElem? (i := 71) rfl))) (mvT hZ (hw _ (List.mem_of_getElem? (i := 70) rfl))) (by decide) (backOf (W := 0) (rmGo l Z a0 hw [] r56 (.ref b52) T56.heap n0 O Gq56_2 rfl) hZ (hw _ (List.mem_of_getElem? (i := 72) rfl)) (hw _ (List.mem_of_getElem? (i := 32) rfl)) (by decide) (by decide)) q59a q59c (g := (mkF m 254 #[.val (.int p1), .val (.int p2), .val (.int p3), .val (.int p4), .val (.int p5), .val (.int bo), .val (.int bn), .val (.int be), .val (.ref b1), .val (.ref b4), .val (.ref b36), .val (.ref b39), .val (.ref b52), .val (.ref b54), .val (.ref r56), .val (.ref b36), .val (.int (1 : Int32)), .unset, .unset, .unset] [(.ref r56)])) rfl (by rw [hml]; rfl) (Steps.refl _) (argsL := []) (rest := []) (lenOf pd_8 rfl) rfl (by show 2 * 0 + _ ≤ _; exact Nat.le_of_eq rfl) (hb hby at_254) (fun _ hWm => ⟨rfl, Kq58, (by decide : 11 + 0 ≤ _), (by decide : 29 + 0 ≤ _)⟩)
        dsimp only [Pt.U, Pt.locs, Pt.cells, Pt.slots] at X59 l59 y59 z59 st59 hQ59
        subst l59 y59 z59
        obtain ⟨rfl, Nq59, Kq59⟩ := hQ59
        replace N := Fr.app N Nq59
        refine own_go (B := T59.setTop (mkF m 257 #[.val (.int p1), .val (.int p2), .val (.int p3), .val (.int p4), .val (.int p5), .val (.int bo), .val (.int bn), .val (.int be), .val (.ref b1), .val (.ref b4), .val (.ref b36), .val (.ref b39), .val (.ref b52), .val (.ref b54), .val (.ref r56), .val (.ref b36), .val (.int (1 : Int32)), .unset, .unset, .unset] [(.ref b52)])) (fun t k => st59.trans k) ?_
        refine own_go (B := T59.setTop (mkF m 271 #[.val (.int p1), .val (.int p2), .val (.int p3), .val (.int p4), .val (.int p5), .val (.int bo), .val (.int bn), .val (.int be), .val (.ref b1), .val (.ref b4), .val (.ref b36), .val (.ref b39), .val (.ref b52), .val (.ref b54), .val (.ref r56), .val (.ref b36), .val (.int (1 : Int32)), .val (.int (1 : Int32)), .unset, .unset] [(.ref r56)])) (fun t k => ?_) ?_
        · show Steps p.tables e below (T59.setTop (mkF m 257 #[.val (.int p1), .val (.int p2), .val (.int p3), .val (.int p4), .val (.int p5), .val (.int bo), .val (.int bn), .val (.int be), .val (.ref b1), .val (.ref b4), .val (.ref b36), .val (.ref b39), .val (.ref b52), .val (.ref b54), .val (.ref r56), .val (.ref b36), .val (.int (1 : Int32)), .unset, .unset, .unset] [(.ref b52)])) _
          refine XS.aload X59.here hx rfl (hb hby at_257) rfl rfl ?_
          show Steps p.tables e below (T59.setTop (mkF m 259 #[.val (.int p1), .val (.int p2), .val (.int p3), .val (.int p4), .val (.int p5), .val (.int bo), .val (.int bn), .val (.int be), .val (.ref b1), .val (.ref b4), .val (.ref b36), .val (.ref b39), .val (.ref b52), .val (.ref b54), .val (.ref r56), .val (.ref b36), .val (.int (1 : Int32)), .unset, .unset, .unset] [(.ref b52), (.ref b52)])) _
          refine Jvm.RoadKit.acmp (g := (mkF m 259 #[.val (.int p1), .val (.int p2), .val (.int p3), .val (.int p4), .val (.int p5), .val (.int bo), .val (.int bn), .val (.int be), .val (.ref b1), .val (.ref b4), .val (.ref b36), .val (.ref b39), .val (.ref b52), .val (.ref b54), .val (.ref r56), .val (.ref b36), .val (.int (1 : Int32)), .unset, .unset, .unset] [(.ref b52), (.ref b52)])) X59 hx rfl rfl rfl (pc0 := 259) (pc' := 262) (same := true) rfl (hb hby at_259) rfl (decide_eq_true (congrArg Value.ref rfl)) (by decide) (by decide) ?_
          show Steps p.tables e below (T59.setTop (mkF m 262 #[.val (.int p1), .val (.int p2), .val (.int p3), .val (.int p4), .val (.int p5), .val (.int bo), .val (.int bn), .val (.int be), .val (.ref b1), .val (.ref b4), .val (.ref b36), .val (.ref b39), .val (.ref b52), .val (.ref b54), .val (.ref r56), .val (.ref b36), .val (.int (1 : Int32)), .unset, .unset, .unset] [])) _
          refine XS.iconst X59.here hx rfl (hb hby at_262) ?_
          show Steps p.tables e below (T59.setTop (mkF m 263 #[.val (.int p1), .val (.int p2), .val (.int p3), .val (.int p4), .val (.int p5), .val (.int bo), .val (.int bn), .val (.int be), .val (.ref b1), .val (.ref b4), .val (.ref b36), .val (.ref b39), .val (.ref b52), .val (.ref b54), .val (.ref r56), .val (.ref b36), .val (.int (1 : Int32)), .unset, .unset, .unset] [(.int (1 : Int32))])) _
          refine XS.goto X59.here hx rfl (pc0 := 263) (pc' := 267) rfl (hb hby at_263) (by decide) (by decide) ?_
          show Steps p.tables e below (T59.setTop (mkF m 267 #[.val (.int p1), .val (.int p2), .val (.int p3), .val (.int p4), .val (.int p5), .val (.int bo), .val (.int bn), .val (.int be), .val (.ref b1), .val (.ref b4), .val (.ref b36), .val (.ref b39), .val (.ref b52), .val (.ref b54), .val (.ref r56), .val (.ref b36), .val (.int (1 : Int32)), .unset, .unset, .unset] [(.int (1 : Int32))])) _
          refine XS.istore X59.here hx rfl (hb hby at_267) rfl (l' := #[.val (.int p1), .val (.int p2), .val (.int p3), .val (.int p4), .val (.int p5), .val (.int bo), .val (.int bn), .val (.int be), .val (.ref b1), .val (.ref b4), .val (.ref b36), .val (.ref b39), .val (.ref b52), .val (.ref b54), .val (.ref r56), .val (.ref b36), .val (.int (1 : Int32)), .val (.int (1 : Int32)), .unset, .unset]) rfl ?_
          show Steps p.tables e below (T59.setTop (mkF m 269 #[.val (.int p1), .val (.int p2), .val (.int p3), .val (.int p4), .val (.int p5), .val (.int bo), .val (.int bn), .val (.int be), .val (.ref b1), .val (.ref b4), .val (.ref b36), .val (.ref b39), .val (.ref b52), .val (.ref b54), .val (.ref r56), .val (.ref b36), .val (.int (1 : Int32)), .val (.int (1 : Int32)), .unset, .unset] [])) _
          refine XS.aload X59.here hx rfl (hb hby at_269) rfl rfl ?_
          show Steps p.tables e below (T59.setTop (mkF m 271 #[.val (.int p1), .val (.int p2), .val (.int p3), .val (.int p4), .val (.int p5), .val (.int bo), .val (.int bn), .val (.int be), .val (.ref b1), .val (.ref b4), .val (.ref b36), .val (.ref b39), .val (.ref b52), .val (.ref b54), .val (.ref r56), .val (.ref b36), .val (.int (1 : Int32)), .val (.int (1 : Int32)), .unset, .unset] [(.ref r56)])) _
          exact k
        -- pc 271: com/example/fieldloom/fieldloom/mapping/Value.position
        obtain ⟨cq60, kq60, q60a, q60b, q60c⟩ := isOf hZ Kq59 Gq56_0
        obtain ⟨_, _, ⟨T60, L60, k60, n60⟩, -, X60, ⟨Lc60, hQ60, l60, y60, z60⟩, st60⟩ := X59.virtualBack hx (y := (⟨"com/example/fieldloom/fieldloom/mapping/Value", "position", "()I"⟩ : MethodName)) (z := (⟨"com/example/fieldloom/fieldloom/mapping/Value", "position", "()I"⟩ : MethodName)) hown (mvT hZ (hw _ (List.mem_of_getElem? (i := 73) rfl))) (mvT hZ (hw _ (List.mem_of_getElem? (i := 74) rfl))) (notFace_of_selects (args := #[]) (mvT hZ (hw _ (List.mem_of_getElem? (i := 76) rfl)))) (mvT hZ (hw _ (List.mem_of_getElem? (i := 76) rfl))) (mvT hZ (hw _ (List.mem_of_getElem? (i := 75) rfl))) (by decide) (backOf (W := 0) (rmGp l Z a0 hw [] r56 (1 : Int32) T56.heap n0 O Gq56_3) hZ (hw _ (List.mem_of_getElem? (i := 77) rfl)) (hw _ (List.mem_of_getElem? (i := 32) rfl)) (by decide) (by decide)) q60a q60c (g := (mkF m 271 #[.val (.int p1), .val (.int p2), .val (.int p3), .val (.int p4), .val (.int p5), .val (.int bo), .val (.int bn), .val (.int be), .val (.ref b1), .val (.ref b4), .val (.ref b36), .val (.ref b39), .val (.ref b52), .val (.ref b54), .val (.ref r56), .val (.ref b36), .val (.int (1 : Int32)), .val (.int (1 : Int32)), .unset, .unset] [(.ref r56)])) rfl (by rw [hml]; rfl) (Steps.refl _) (argsL := []) (rest := []) (lenOf pd_9 rfl) rfl (by show 2 * 0 + _ ≤ _; exact Nat.le_of_eq rfl) (hb hby at_271) (fun _ hWm => ⟨rfl, Kq59, (by decide : 11 + 0 ≤ _), (by decide : 29 + 0 ≤ _)⟩)
        dsimp only [Pt.U, Pt.locs, Pt.cells, Pt.slots] at X60 l60 y60 z60 st60 hQ60
        subst l60 y60 z60
        obtain ⟨rfl, Nq60, Kq60⟩ := hQ60
        replace N := Fr.app N Nq60
        refine own_go (B := T60.setTop (mkF m 274 #[.val (.int p1), .val (.int p2), .val (.int p3), .val (.int p4), .val (.int p5), .val (.int bo), .val (.int bn), .val (.int be), .val (.ref b1), .val (.ref b4), .val (.ref b36), .val (.ref b39), .val (.ref b52), .val (.ref b54), .val (.ref r56), .val (.ref b36), .val (.int (1 : Int32)), .val (.int (1 : Int32)), .unset, .unset] [(.int (1 : Int32))])) (fun t k => st60.trans k) ?_
        refine own_go (B := T60.setTop (mkF m 287 #[.val (.int p1), .val (.int p2), .val (.int p3), .val (.int p4), .val (.int p5), .val (.int bo), .val (.int bn), .val (.int be), .val (.ref b1), .val (.ref b4), .val (.ref b36), .val (.ref b39), .val (.ref b52), .val (.ref b54), .val (.ref r56), .val (.ref b36), .val (.int (1 : Int32)), .val (.int (1 : Int32)), .val (.int (1 : Int32)), .unset] [(.ref b54)])) (fun t k => ?_) ?_
        · show Steps p.tables e below (T60.setTop (mkF m 274 #[.val (.int p1), .val (.int p2), .val (.int p3), .val (.int p4), .val (.int p5), .val (.int bo), .val (.int bn), .val (.int be), .val (.ref b1), .val (.ref b4), .val (.ref b36), .val (.ref b39), .val (.ref b52), .val (.ref b54), .val (.ref r56), .val (.ref b36), .val (.int (1 : Int32)), .val (.int (1 : Int32)), .unset, .unset] [(.int (1 : Int32))])) _
          refine XS.iconst X60.here hx rfl (hb hby at_274) ?_
          show Steps p.tables e below (T60.setTop (mkF m 275 #[.val (.int p1), .val (.int p2), .val (.int p3), .val (.int p4), .val (.int p5), .val (.int bo), .val (.int bn), .val (.int be), .val (.ref b1), .val (.ref b4), .val (.ref b36), .val (.ref b39), .val (.ref b52), .val (.ref b54), .val (.ref r56), .val (.ref b36), .val (.int (1 : Int32)), .val (.int (1 : Int32)), .unset, .unset] [(.int (1 : Int32)), (.int (1 : Int32))])) _
          refine XS.icmpNo X60.here hx rfl (hb hby at_275) rfl (teq rfl).2 ?_
          show Steps p.tables e below (T60.setTop (mkF m 278 #[.val (.int p1), .val (.int p2), .val (.int p3), .val (.int p4), .val (.int p5), .val (.int bo), .val (.int bn), .val (.int be), .val (.ref b1), .val (.ref b4), .val (.ref b36), .val (.ref b39), .val (.ref b52), .val (.ref b54), .val (.ref r56), .val (.ref b36), .val (.int (1 : Int32)), .val (.int (1 : Int32)), .unset, .unset] [])) _
          refine XS.iconst X60.here hx rfl (hb hby at_278) ?_
          show Steps p.tables e below (T60.setTop (mkF m 279 #[.val (.int p1), .val (.int p2), .val (.int p3), .val (.int p4), .val (.int p5), .val (.int bo), .val (.int bn), .val (.int be), .val (.ref b1), .val (.ref b4), .val (.ref b36), .val (.ref b39), .val (.ref b52), .val (.ref b54), .val (.ref r56), .val (.ref b36), .val (.int (1 : Int32)), .val (.int (1 : Int32)), .unset, .unset] [(.int (1 : Int32))])) _
          refine XS.goto X60.here hx rfl (pc0 := 279) (pc' := 283) rfl (hb hby at_279) (by decide) (by decide) ?_
          show Steps p.tables e below (T60.setTop (mkF m 283 #[.val (.int p1), .val (.int p2), .val (.int p3), .val (.int p4), .val (.int p5), .val (.int bo), .val (.int bn), .val (.int be), .val (.ref b1), .val (.ref b4), .val (.ref b36), .val (.ref b39), .val (.ref b52), .val (.ref b54), .val (.ref r56), .val (.ref b36), .val (.int (1 : Int32)), .val (.int (1 : Int32)), .unset, .unset] [(.int (1 : Int32))])) _
          refine XS.istore X60.here hx rfl (hb hby at_283) rfl (l' := #[.val (.int p1), .val (.int p2), .val (.int p3), .val (.int p4), .val (.int p5), .val (.int bo), .val (.int bn), .val (.int be), .val (.ref b1), .val (.ref b4), .val (.ref b36), .val (.ref b39), .val (.ref b52), .val (.ref b54), .val (.ref r56), .val (.ref b36), .val (.int (1 : Int32)), .val (.int (1 : Int32)), .val (.int (1 : Int32)), .unset]) rfl ?_
          show Steps p.tables e below (T60.setTop (mkF m 285 #[.val (.int p1), .val (.int p2), .val (.int p3), .val (.int p4), .val (.int p5), .val (.int bo), .val (.int bn), .val (.int be), .val (.ref b1), .val (.ref b4), .val (.ref b36), .val (.ref b39), .val (.ref b52), .val (.ref b54), .val (.ref r56), .val (.ref b36), .val (.int (1 : Int32)), .val (.int (1 : Int32)), .val (.int (1 : Int32)), .unset] [])) _
          refine XS.aload X60.here hx rfl (hb hby at_285) rfl rfl ?_
          show Steps p.tables e below (T60.setTop (mkF m 287 #[.val (.int p1), .val (.int p2), .val (.int p3), .val (.int p4), .val (.int p5), .val (.int bo), .val (.int bn), .val (.int be), .val (.ref b1), .val (.ref b4), .val (.ref b36), .val (.ref b39), .val (.ref b52), .val (.ref b54), .val (.ref r56), .val (.ref b36), .val (.int (1 : Int32)), .val (.int (1 : Int32)), .val (.int (1 : Int32)), .unset] [(.ref b54)])) _
          exact k
        -- pc 287: com/example/fieldloom/fieldloom/mapping/Value.text
        obtain ⟨cq61, kq61, q61a, q61b, q61c⟩ := isOf hZ Kq60 A54
        obtain ⟨_, _, ⟨T61, L61, k61, n61⟩, -, X61, ⟨Lc61, hQ61, l61, y61, z61⟩, st61⟩ := X60.virtualBack hx (y := (⟨"com/example/fieldloom/fieldloom/mapping/Value", "text", "()Ljava/lang/String;"⟩ : MethodName)) (z := (⟨"com/example/fieldloom/fieldloom/mapping/Value", "text", "()Ljava/lang/String;"⟩ : MethodName)) hown (mvT hZ (hw _ (List.mem_of_getElem? (i := 58) rfl))) (mvT hZ (hw _ (List.mem_of_getElem? (i := 59) rfl))) (notFace_of_selects (args := #[]) (mvT hZ (hw _ (List.mem_of_getElem? (i := 61) rfl)))) (mvT hZ (hw _ (List.mem_of_getElem? (i := 61) rfl))) (mvT hZ (hw _ (List.mem_of_getElem? (i := 60) rfl))) (by decide) (backOf (W := 0) (rmGt l Z a0 hw [] b54 (.ref b39) T56.heap n0 O Gq55_0 rfl) hZ (hw _ (List.mem_of_getElem? (i := 62) rfl)) (hw _ (List.mem_of_getElem? (i := 32) rfl)) (by decide) (by decide)) q61a q61c (g := (mkF m 287 #[.val (.int p1), .val (.int p2), .val (.int p3), .val (.int p4), .val (.int p5), .val (.int bo), .val (.int bn), .val (.int be), .val (.ref b1), .val (.ref b4), .val (.ref b36), .val (.ref b39), .val (.ref b52), .val (.ref b54), .val (.ref r56), .val (.ref b36), .val (.int (1 : Int32)), .val (.int (1 : Int32)), .val (.int (1 : Int32)), .unset] [(.ref b54)])) rfl (by rw [hml]; rfl) (Steps.refl _) (argsL := []) (rest := []) (lenOf pd_6 rfl) rfl (by show 2 * 0 + _ ≤ _; exact Nat.le_of_eq rfl) (hb hby at_287) (fun _ hWm => ⟨rfl, Kq60, (by decide : 11 + 0 ≤ _), (by decide : 29 + 0 ≤ _)⟩)
        dsimp only [Pt.U, Pt.locs, Pt.cells, Pt.slots] at X61 l61 y61 z61 st61 hQ61
        subst l61 y61 z61
        obtain ⟨rfl, Nq61, Kq61⟩ := hQ61
        replace N := Fr.app N Nq61
        refine own_go (B := T61.setTop (mkF m 290 #[.val (.int p1), .val (.int p2), .val (.int p3), .val (.int p4), .val (.int p5), .val (.int bo), .val (.int bn), .val (.int be), .val (.ref b1), .val (.ref b4), .val (.ref b36), .val (.ref b39), .val (.ref b52), .val (.ref b54), .val (.ref r56), .val (.ref b36), .val (.int (1 : Int32)), .val (.int (1 : Int32)), .val (.int (1 : Int32)), .unset] [(.ref b39)])) (fun t k => st61.trans k) ?_
        refine own_go (B := T61.setTop (mkF m 297 #[.val (.int p1), .val (.int p2), .val (.int p3), .val (.int p4), .val (.int p5), .val (.int bo), .val (.int bn), .val (.int be), .val (.ref b1), .val (.ref b4), .val (.ref b36), .val (.ref b39), .val (.ref b52), .val (.ref b54), .val (.ref r56), .val (.ref b36), .val (.int (1 : Int32)), .val (.int (1 : Int32)), .val (.int (1 : Int32)), .unset] [(.ref b54)])) (fun t k => ?_) ?_
        · show Steps p.tables e below (T61.setTop (mkF m 290 #[.val (.int p1), .val (.int p2), .val (.int p3), .val (.int p4), .val (.int p5), .val (.int bo), .val (.int bn), .val (.int be), .val (.ref b1), .val (.ref b4), .val (.ref b36), .val (.ref b39), .val (.ref b52), .val (.ref b54), .val (.ref r56), .val (.ref b36), .val (.int (1 : Int32)), .val (.int (1 : Int32)), .val (.int (1 : Int32)), .unset] [(.ref b39)])) _
          refine XS.aload X61.here hx rfl (hb hby at_290) rfl rfl ?_
          show Steps p.tables e below (T61.setTop (mkF m 292 #[.val (.int p1), .val (.int p2), .val (.int p3), .val (.int p4), .val (.int p5), .val (.int bo), .val (.int bn), .val (.int be), .val (.ref b1), .val (.ref b4), .val (.ref b36), .val (.ref b39), .val (.ref b52), .val (.ref b54), .val (.ref r56), .val (.ref b36), .val (.int (1 : Int32)), .val (.int (1 : Int32)), .val (.int (1 : Int32)), .unset] [(.ref b39), (.ref b39)])) _
          refine Jvm.RoadKit.acmp (g := (mkF m 292 #[.val (.int p1), .val (.int p2), .val (.int p3), .val (.int p4), .val (.int p5), .val (.int bo), .val (.int bn), .val (.int be), .val (.ref b1), .val (.ref b4), .val (.ref b36), .val (.ref b39), .val (.ref b52), .val (.ref b54), .val (.ref r56), .val (.ref b36), .val (.int (1 : Int32)), .val (.int (1 : Int32)), .val (.int (1 : Int32)), .unset] [(.ref b39), (.ref b39)])) X61 hx rfl rfl rfl (pc0 := 292) (pc' := 295) (same := true) rfl (hb hby at_292) rfl (decide_eq_true (congrArg Value.ref rfl)) (by decide) (by decide) ?_
          show Steps p.tables e below (T61.setTop (mkF m 295 #[.val (.int p1), .val (.int p2), .val (.int p3), .val (.int p4), .val (.int p5), .val (.int bo), .val (.int bn), .val (.int be), .val (.ref b1), .val (.ref b4), .val (.ref b36), .val (.ref b39), .val (.ref b52), .val (.ref b54), .val (.ref r56), .val (.ref b36), .val (.int (1 : Int32)), .val (.int (1 : Int32)), .val (.int (1 : Int32)), .unset] [])) _
          refine XS.aload X61.here hx rfl (hb hby at_295) rfl rfl ?_
          show Steps p.tables e below (T61.setTop (mkF m 297 #[.val (.int p1), .val (.int p2), .val (.int p3), .val (.int p4), .val (.int p5), .val (.int bo), .val (.int bn), .val (.int be), .val (.ref b1), .val (.ref b4), .val (.ref b36), .val (.ref b39), .val (.ref b52), .val (.ref b54), .val (.ref r56), .val (.ref b36), .val (.int (1 : Int32)), .val (.int (1 : Int32)), .val (.int (1 : Int32)), .unset] [(.ref b54)])) _
          exact k
        -- pc 297: com/example/fieldloom/fieldloom/mapping/Value.occurrence
        obtain ⟨cq62, kq62, q62a, q62b, q62c⟩ := isOf hZ Kq61 A54
        obtain ⟨_, _, ⟨T62, L62, k62, n62⟩, -, X62, ⟨Lc62, hQ62, l62, y62, z62⟩, st62⟩ := X61.virtualBack hx (y := (⟨"com/example/fieldloom/fieldloom/mapping/Value", "occurrence", "()Lcom/example/fieldloom/fieldloom/mapping/FieldOccurrence;"⟩ : MethodName)) (z := (⟨"com/example/fieldloom/fieldloom/mapping/Value", "occurrence", "()Lcom/example/fieldloom/fieldloom/mapping/FieldOccurrence;"⟩ : MethodName)) hown (mvT hZ (hw _ (List.mem_of_getElem? (i := 68) rfl))) (mvT hZ (hw _ (List.mem_of_getElem? (i := 69) rfl))) (notFace_of_selects (args := #[]) (mvT hZ (hw _ (List.mem_of_getElem? (i := 71) rfl)))) (mvT hZ (hw _ (List.mem_of_getElem? (i := 71) rfl))) (mvT hZ (hw _ (List.mem_of_getElem? (i := 70) rfl))) (by decide) (backOf (W := 0) (rmGo l Z a0 hw [] b54 (.ref b52) T56.heap n0 O Gq55_1 rfl) hZ (hw _ (List.mem_of_getElem? (i := 72) rfl)) (hw _ (List.mem_of_getElem? (i := 32) rfl)) (by decide) (by decide)) q62a q62c (g := (mkF m 297 #[.val (.int p1), .val (.int p2), .val (.int p3), .val (.int p4), .val (.int p5), .val (.int bo), .val (.int bn), .val (.int be), .val (.ref b1), .val (.ref b4), .val (.ref b36), .val (.ref b39), .val (.ref b52), .val (.ref b54), .val (.ref r56), .val (.ref b36), .val (.int (1 : Int32)), .val (.int (1 : Int32)), .val (.int (1 : Int32)), .unset] [(.ref b54)])) rfl (by rw [hml]; rfl) (Steps.refl _) (argsL := []) (rest := []) (lenOf pd_8 rfl) rfl (by show 2 * 0 + _ ≤ _; exact Nat.le_of_eq rfl) (hb hby at_297) (fun _ hWm => ⟨rfl, Kq61, (by decide : 11 + 0 ≤ _), (by decide : 29 + 0 ≤ _)⟩)
        dsimp only [Pt.U, Pt.locs, Pt.cells, Pt.slots] at X62 l62 y62 z62 st62 hQ62
        subst l62 y62 z62
        obtain ⟨rfl, Nq62, Kq62⟩ := hQ62
        replace N := Fr.app N Nq62
        refine own_go (B := T62.setTop (mkF m 300 #[.val (.int p1), .val (.int p2), .val (.int p3), .val (.int p4), .val (.int p5), .val (.int bo), .val (.int bn), .val (.int be), .val (.ref b1), .val (.ref b4), .val (.ref b36), .val (.ref b39), .val (.ref b52), .val (.ref b54), .val (.ref r56), .val (.ref b36), .val (.int (1 : Int32)), .val (.int (1 : Int32)), .val (.int (1 : Int32)), .unset] [(.ref b52)])) (fun t k => st62.trans k) ?_
        refine own_go (B := T62.setTop (mkF m 307 #[.val (.int p1), .val (.int p2), .val (.int p3), .val (.int p4), .val (.int p5), .val (.int bo), .val (.int bn), .val (.int be), .val (.ref b1), .val (.ref b4), .val (.ref b36), .val (.ref b39), .val (.ref b52), .val (.ref b54), .val (.ref r56), .val (.ref b36), .val (.int (1 : Int32)), .val (.int (1 : Int32)), .val (.int (1 : Int32)), .unset] [(.ref b54)])) (fun t k => ?_) ?_
        · show Steps p.tables e below (T62.setTop (mkF m 300 #[.val (.int p1), .val (.int p2), .val (.int p3), .val (.int p4), .val (.int p5), .val (.int bo), .val (.int bn), .val (.int be), .val (.ref b1), .val (.ref b4), .val (.ref b36), .val (.ref b39), .val (.ref b52), .val (.ref b54), .val (.ref r56), .val (.ref b36), .val (.int (1 : Int32)), .val (.int (1 : Int32)), .val (.int (1 : Int32)), .unset] [(.ref b52)])) _
          refine XS.aload X62.here hx rfl (hb hby at_300) rfl rfl ?_
          show Steps p.tables e below (T62.setTop (mkF m 302 #[.val (.int p1), .val (.int p2), .val (.int p3), .val (.int p4), .val (.int p5), .val (.int bo), .val (.int bn), .val (.int be), .val (.ref b1), .val (.ref b4), .val (.ref b36), .val (.ref b39), .val (.ref b52), .val (.ref b54), .val (.ref r56), .val (.ref b36), .val (.int (1 : Int32)), .val (.int (1 : Int32)), .val (.int (1 : Int32)), .unset] [(.ref b52), (.ref b52)])) _
          refine Jvm.RoadKit.acmp (g := (mkF m 302 #[.val (.int p1), .val (.int p2), .val (.int p3), .val (.int p4), .val (.int p5), .val (.int bo), .val (.int bn), .val (.int be), .val (.ref b1), .val (.ref b4), .val (.ref b36), .val (.ref b39), .val (.ref b52), .val (.ref b54), .val (.ref r56), .val (.ref b36), .val (.int (1 : Int32)), .val (.int (1 : Int32)), .val (.int (1 : Int32)), .unset] [(.ref b52), (.ref b52)])) X62 hx rfl rfl rfl (pc0 := 302) (pc' := 305) (same := true) rfl (hb hby at_302) rfl (decide_eq_true (congrArg Value.ref rfl)) (by decide) (by decide) ?_
          show Steps p.tables e below (T62.setTop (mkF m 305 #[.val (.int p1), .val (.int p2), .val (.int p3), .val (.int p4), .val (.int p5), .val (.int bo), .val (.int bn), .val (.int be), .val (.ref b1), .val (.ref b4), .val (.ref b36), .val (.ref b39), .val (.ref b52), .val (.ref b54), .val (.ref r56), .val (.ref b36), .val (.int (1 : Int32)), .val (.int (1 : Int32)), .val (.int (1 : Int32)), .unset] [])) _
          refine XS.aload X62.here hx rfl (hb hby at_305) rfl rfl ?_
          show Steps p.tables e below (T62.setTop (mkF m 307 #[.val (.int p1), .val (.int p2), .val (.int p3), .val (.int p4), .val (.int p5), .val (.int bo), .val (.int bn), .val (.int be), .val (.ref b1), .val (.ref b4), .val (.ref b36), .val (.ref b39), .val (.ref b52), .val (.ref b54), .val (.ref r56), .val (.ref b36), .val (.int (1 : Int32)), .val (.int (1 : Int32)), .val (.int (1 : Int32)), .unset] [(.ref b54)])) _
          exact k
        -- pc 307: com/example/fieldloom/fieldloom/mapping/Value.position
        obtain ⟨cq63, kq63, q63a, q63b, q63c⟩ := isOf hZ Kq62 A54
        obtain ⟨_, _, ⟨T63, L63, k63, n63⟩, -, X63, ⟨Lc63, hQ63, l63, y63, z63⟩, st63⟩ := X62.virtualBack hx (y := (⟨"com/example/fieldloom/fieldloom/mapping/Value", "position", "()I"⟩ : MethodName)) (z := (⟨"com/example/fieldloom/fieldloom/mapping/Value", "position", "()I"⟩ : MethodName)) hown (mvT hZ (hw _ (List.mem_of_getElem? (i := 73) rfl))) (mvT hZ (hw _ (List.mem_of_getElem? (i := 74) rfl))) (notFace_of_selects (args := #[]) (mvT hZ (hw _ (List.mem_of_getElem? (i := 76) rfl)))) (mvT hZ (hw _ (List.mem_of_getElem? (i := 76) rfl))) (mvT hZ (hw _ (List.mem_of_getElem? (i := 75) rfl))) (by decide) (backOf (W := 0) (rmGp l Z a0 hw [] b54 p3 T56.heap n0 O Gq55_2) hZ (hw _ (List.mem_of_getElem? (i := 77) rfl)) (hw _ (List.mem_of_getElem? (i := 32) rfl)) (by decide) (by decide)) q63a q63c (g := (mkF m 307 #[.val (.int p1), .val (.int p2), .val (.int p3), .val (.int p4), .val (.int p5), .val (.int bo), .val (.int bn), .val (.int be), .val (.ref b1), .val (.ref b4), .val (.ref b36), .val (.ref b39), .val (.ref b52), .val (.ref b54), .val (.ref r56), .val (.ref b36), .val (.int (1 : Int32)), .val (.int (1 : Int32)), .val (.int (1 : Int32)), .unset] [(.ref b54)])) rfl (by rw [hml]; rfl) (Steps.refl _) (argsL := []) (rest := []) (lenOf pd_9 rfl) rfl (by show 2 * 0 + _ ≤ _; exact Nat.le_of_eq rfl) (hb hby at_307) (fun _ hWm => ⟨rfl, Kq62, (by decide : 11 + 0 ≤ _), (by decide : 29 + 0 ≤ _)⟩)
        dsimp only [Pt.U, Pt.locs, Pt.cells, Pt.slots] at X63 l63 y63 z63 st63 hQ63
        subst l63 y63 z63
        obtain ⟨rfl, Nq63, Kq63⟩ := hQ63
        replace N := Fr.app N Nq63
        refine own_go (B := T63.setTop (mkF m 310 #[.val (.int p1), .val (.int p2), .val (.int p3), .val (.int p4), .val (.int p5), .val (.int bo), .val (.int bn), .val (.int be), .val (.ref b1), .val (.ref b4), .val (.ref b36), .val (.ref b39), .val (.ref b52), .val (.ref b54), .val (.ref r56), .val (.ref b36), .val (.int (1 : Int32)), .val (.int (1 : Int32)), .val (.int (1 : Int32)), .unset] [(.int p3)])) (fun t k => st63.trans k) ?_
        refine own_go (B := T63.setTop (mkF m 346 #[.val (.int p1), .val (.int p2), .val (.int p3), .val (.int p4), .val (.int p5), .val (.int bo), .val (.int bn), .val (.int be), .val (.ref b1), .val (.ref b4), .val (.ref b36), .val (.ref b39), .val (.ref b52), .val (.ref b54), .val (.ref r56), .val (.ref b36), .val (.int (1 : Int32)), .val (.int (1 : Int32)), .val (.int (1 : Int32)), .val (.int (1 : Int32))] [(.int (1 : Int32))])) (fun t k => ?_) ?_
        · show Steps p.tables e below (T63.setTop (mkF m 310 #[.val (.int p1), .val (.int p2), .val (.int p3), .val (.int p4), .val (.int p5), .val (.int bo), .val (.int bn), .val (.int be), .val (.ref b1), .val (.ref b4), .val (.ref b36), .val (.ref b39), .val (.ref b52), .val (.ref b54), .val (.ref r56), .val (.ref b36), .val (.int (1 : Int32)), .val (.int (1 : Int32)), .val (.int (1 : Int32)), .unset] [(.int p3)])) _
          refine XS.iloadN X63.here hx rfl (hb hby at_310) rfl ?_
          show Steps p.tables e below (T63.setTop (mkF m 311 #[.val (.int p1), .val (.int p2), .val (.int p3), .val (.int p4), .val (.int p5), .val (.int bo), .val (.int bn), .val (.int be), .val (.ref b1), .val (.ref b4), .val (.ref b36), .val (.ref b39), .val (.ref b52), .val (.ref b54), .val (.ref r56), .val (.ref b36), .val (.int (1 : Int32)), .val (.int (1 : Int32)), .val (.int (1 : Int32)), .unset] [(.int p3), (.int p3)])) _
          refine XS.icmpNo X63.here hx rfl (hb hby at_311) rfl (teq rfl).2 ?_
          show Steps p.tables e below (T63.setTop (mkF m 314 #[.val (.int p1), .val (.int p2), .val (.int p3), .val (.int p4), .val (.int p5), .val (.int bo), .val (.int bn), .val (.int be), .val (.ref b1), .val (.ref b4), .val (.ref b36), .val (.ref b39), .val (.ref b52), .val (.ref b54), .val (.ref r56), .val (.ref b36), .val (.int (1 : Int32)), .val (.int (1 : Int32)), .val (.int (1 : Int32)), .unset] [])) _
          refine XS.iconst X63.here hx rfl (hb hby at_314) ?_
          show Steps p.tables e below (T63.setTop (mkF m 315 #[.val (.int p1), .val (.int p2), .val (.int p3), .val (.int p4), .val (.int p5), .val (.int bo), .val (.int bn), .val (.int be), .val (.ref b1), .val (.ref b4), .val (.ref b36), .val (.ref b39), .val (.ref b52), .val (.ref b54), .val (.ref r56), .val (.ref b36), .val (.int (1 : Int32)), .val (.int (1 : Int32)), .val (.int (1 : Int32)), .unset] [(.int (1 : Int32))])) _
          refine XS.goto X63.here hx rfl (pc0 := 315) (pc' := 319) rfl (hb hby at_315) (by decide) (by decide) ?_
          show Steps p.tables e below (T63.setTop (mkF m 319 #[.val (.int p1), .val (.int p2), .val (.int p3), .val (.int p4), .val (.int p5), .val (.int bo), .val (.int bn), .val (.int be), .val (.ref b1), .val (.ref b4), .val (.ref b36), .val (.ref b39), .val (.ref b52), .val (.ref b54), .val (.ref r56), .val (.ref b36), .val (.int (1 : Int32)), .val (.int (1 : Int32)), .val (.int (1 : Int32)), .unset] [(.int (1 : Int32))])) _
          refine XS.istore X63.here hx rfl (hb hby at_319) rfl (l' := #[.val (.int p1), .val (.int p2), .val (.int p3), .val (.int p4), .val (.int p5), .val (.int bo), .val (.int bn), .val (.int be), .val (.ref b1), .val (.ref b4), .val (.ref b36), .val (.ref b39), .val (.ref b52), .val (.ref b54), .val (.ref r56), .val (.ref b36), .val (.int (1 : Int32)), .val (.int (1 : Int32)), .val (.int (1 : Int32)), .val (.int (1 : Int32))]) rfl ?_
          show Steps p.tables e below (T63.setTop (mkF m 321 #[.val (.int p1), .val (.int p2), .val (.int p3), .val (.int p4), .val (.int p5), .val (.int bo), .val (.int bn), .val (.int be), .val (.ref b1), .val (.ref b4), .val (.ref b36), .val (.ref b39), .val (.ref b52), .val (.ref b54), .val (.ref r56), .val (.ref b36), .val (.int (1 : Int32)), .val (.int (1 : Int32)), .val (.int (1 : Int32)), .val (.int (1 : Int32))] [])) _
          refine XS.iload X63.here hx rfl (hb hby at_321) rfl ?_
          show Steps p.tables e below (T63.setTop (mkF m 323 #[.val (.int p1), .val (.int p2), .val (.int p3), .val (.int p4), .val (.int p5), .val (.int bo), .val (.int bn), .val (.int be), .val (.ref b1), .val (.ref b4), .val (.ref b36), .val (.ref b39), .val (.ref b52), .val (.ref b54), .val (.ref r56), .val (.ref b36), .val (.int (1 : Int32)), .val (.int (1 : Int32)), .val (.int (1 : Int32)), .val (.int (1 : Int32))] [(.int (1 : Int32))])) _
          refine XS.ifNo X63.here hx rfl (hb hby at_323) rfl ((if0 _ _).trans (feq (by decide)).1) ?_
          show Steps p.tables e below (T63.setTop (mkF m 326 #[.val (.int p1), .val (.int p2), .val (.int p3), .val (.int p4), .val (.int p5), .val (.int bo), .val (.int bn), .val (.int be), .val (.ref b1), .val (.ref b4), .val (.ref b36), .val (.ref b39), .val (.ref b52), .val (.ref b54), .val (.ref r56), .val (.ref b36), .val (.int (1 : Int32)), .val (.int (1 : Int32)), .val (.int (1 : Int32)), .val (.int (1 : Int32))] [])) _
          refine XS.iload X63.here hx rfl (hb hby at_326) rfl ?_
          show Steps p.tables e below (T63.setTop (mkF m 328 #[.val (.int p1), .val (.int p2), .val (.int p3), .val (.int p4), .val (.int p5), .val (.int bo), .val (.int bn), .val (.int be), .val (.ref b1), .val (.ref b4), .val (.ref b36), .val (.ref b39), .val (.ref b52), .val (.ref b54), .val (.ref r56), .val (.ref b36), .val (.int (1 : Int32)), .val (.int (1 : Int32)), .val (.int (1 : Int32)), .val (.int (1 : Int32))] [(.int (1 : Int32))])) _
          refine XS.ifNo X63.here hx rfl (hb hby at_328) rfl ((if0 _ _).trans (feq (by decide)).1) ?_
          show Steps p.tables e below (T63.setTop (mkF m 331 #[.val (.int p1), .val (.int p2), .val (.int p3), .val (.int p4), .val (.int p5), .val (.int bo), .val (.int bn), .val (.int be), .val (.ref b1), .val (.ref b4), .val (.ref b36), .val (.ref b39), .val (.ref b52), .val (.ref b54), .val (.ref r56), .val (.ref b36), .val (.int (1 : Int32)), .val (.int (1 : Int32)), .val (.int (1 : Int32)), .val (.int (1 : Int32))] [])) _
          refine XS.iload X63.here hx rfl (hb hby at_331) rfl ?_
          show Steps p.tables e below (T63.setTop (mkF m 333 #[.val (.int p1), .val (.int p2), .val (.int p3), .val (.int p4), .val (.int p5), .val (.int bo), .val (.int bn), .val (.int be), .val (.ref b1), .val (.ref b4), .val (.ref b36), .val (.ref b39), .val (.ref b52), .val (.ref b54), .val (.ref r56), .val (.ref b36), .val (.int (1 : Int32)), .val (.int (1 : Int32)), .val (.int (1 : Int32)), .val (.int (1 : Int32))] [(.int (1 : Int32))])) _
          refine XS.ifNo X63.here hx rfl (hb hby at_333) rfl ((if0 _ _).trans (feq (by decide)).1) ?_
          show Steps p.tables e below (T63.setTop (mkF m 336 #[.val (.int p1), .val (.int p2), .val (.int p3), .val (.int p4), .val (.int p5), .val (.int bo), .val (.int bn), .val (.int be), .val (.ref b1), .val (.ref b4), .val (.ref b36), .val (.ref b39), .val (.ref b52), .val (.ref b54), .val (.ref r56), .val (.ref b36), .val (.int (1 : Int32)), .val (.int (1 : Int32)), .val (.int (1 : Int32)), .val (.int (1 : Int32))] [])) _
          refine XS.iload X63.here hx rfl (hb hby at_336) rfl ?_
          show Steps p.tables e below (T63.setTop (mkF m 338 #[.val (.int p1), .val (.int p2), .val (.int p3), .val (.int p4), .val (.int p5), .val (.int bo), .val (.int bn), .val (.int be), .val (.ref b1), .val (.ref b4), .val (.ref b36), .val (.ref b39), .val (.ref b52), .val (.ref b54), .val (.ref r56), .val (.ref b36), .val (.int (1 : Int32)), .val (.int (1 : Int32)), .val (.int (1 : Int32)), .val (.int (1 : Int32))] [(.int (1 : Int32))])) _
          refine XS.ifNo X63.here hx rfl (hb hby at_338) rfl ((if0 _ _).trans (feq (by decide)).1) ?_
          show Steps p.tables e below (T63.setTop (mkF m 341 #[.val (.int p1), .val (.int p2), .val (.int p3), .val (.int p4), .val (.int p5), .val (.int bo), .val (.int bn), .val (.int be), .val (.ref b1), .val (.ref b4), .val (.ref b36), .val (.ref b39), .val (.ref b52), .val (.ref b54), .val (.ref r56), .val (.ref b36), .val (.int (1 : Int32)), .val (.int (1 : Int32)), .val (.int (1 : Int32)), .val (.int (1 : Int32))] [])) _
          refine XS.iconst X63.here hx rfl (hb hby at_341) ?_
          show Steps p.tables e below (T63.setTop (mkF m 342 #[.val (.int p1), .val (.int p2), .val (.int p3), .val (.int p4), .val (.int p5), .val (.int bo), .val (.int bn), .val (.int be), .val (.ref b1), .val (.ref b4), .val (.ref b36), .val (.ref b39), .val (.ref b52), .val (.ref b54), .val (.ref r56), .val (.ref b36), .val (.int (1 : Int32)), .val (.int (1 : Int32)), .val (.int (1 : Int32)), .val (.int (1 : Int32))] [(.int (1 : Int32))])) _
          refine XS.goto X63.here hx rfl (pc0 := 342) (pc' := 346) rfl (hb hby at_342) (by decide) (by decide) ?_
          show Steps p.tables e below (T63.setTop (mkF m 346 #[.val (.int p1), .val (.int p2), .val (.int p3), .val (.int p4), .val (.int p5), .val (.int bo), .val (.int bn), .val (.int be), .val (.ref b1), .val (.ref b4), .val (.ref b36), .val (.ref b39), .val (.ref b52), .val (.ref b54), .val (.ref r56), .val (.ref b36), .val (.int (1 : Int32)), .val (.int (1 : Int32)), .val (.int (1 : Int32)), .val (.int (1 : Int32))] [(.int (1 : Int32))])) _
          exact k
        obtain ⟨fs, hr, hrun, hended, hEnd⟩ := X63.leaveW hS (by rw [Kq63]; exact hk) (v := some (.int (1 : Int32))) (fun h => by rw [Bd.returns] at h; cases h)
        refine ⟨_, _, retN X63 hx (t := .boolean) Bd.returns (by simp) (hb hby at_346) hr, hfin _ _ ⟨hrun, hended, _, _, rfl, ?_, hEnd.1, hEnd.2.1, hEnd.2.2.1, hEnd.2.2.2.mono (by decide) (by decide)⟩⟩
        show Q0 Z p1 p2 p3 p4 p5 zc h0 n0 _ T63.heap _
        rw [Kq63]
        exact ⟨rfl, N⟩
  · refine own_go (B := T7.setTop (mkF m 149 #[.val (.int p1), .val (.int p2), .val (.int p3), .val (.int p4), .val (.int p5), .val (.int bo), .val (.int bn), .val (.int be), .val (.ref b1), .val (.ref b4), .val .null, .unset, .unset, .unset, .unset, .unset, .unset, .unset, .unset, .unset] [])) (fun t k => ?_) ?_
    · show Steps p.tables e below (T7.setTop (mkF m 113 #[.val (.int p1), .val (.int p2), .val (.int p3), .val (.int p4), .val (.int p5), .val (.int bo), .val (.int bn), .val (.int be), .val (.ref b1), .val (.ref b4), .unset, .unset, .unset, .unset, .unset, .unset, .unset, .unset, .unset, .unset] [(.int bn)])) _
      refine XS.ifNo X7.here hx rfl (hb hby at_113) rfl ((if0 _ _).trans (feq kn).1) ?_
      show Steps p.tables e below (T7.setTop (mkF m 116 #[.val (.int p1), .val (.int p2), .val (.int p3), .val (.int p4), .val (.int p5), .val (.int bo), .val (.int bn), .val (.int be), .val (.ref b1), .val (.ref b4), .unset, .unset, .unset, .unset, .unset, .unset, .unset, .unset, .unset, .unset] [])) _
      refine XS.aconstNull X7.here hx rfl (hb hby at_116) ?_
      show Steps p.tables e below (T7.setTop (mkF m 117 #[.val (.int p1), .val (.int p2), .val (.int p3), .val (.int p4), .val (.int p5), .val (.int bo), .val (.int bn), .val (.int be), .val (.ref b1), .val (.ref b4), .unset, .unset, .unset, .unset, .unset, .unset, .unset, .unset, .unset, .unset] [.null])) _
      refine XS.goto X7.here hx rfl (pc0 := 117) (pc' := 147) rfl (hb hby at_117) (by decide) (by decide) ?_
      show Steps p.tables e below (T7.setTop (mkF m 147 #[.val (.int p1), .val (.int p2), .val (.int p3), .val (.int p4), .val (.int p5), .val (.int bo), .val (.int bn), .val (.int be), .val (.ref b1), .val (.ref b4), .unset, .unset, .unset, .unset, .unset, .unset, .unset, .unset, .unset, .unset] [.null])) _
      refine XS.astore X7.here hx rfl (hb hby at_147) rfl rfl (l' := #[.val (.int p1), .val (.int p2), .val (.int p3), .val (.int p4), .val (.int p5), .val (.int bo), .val (.int bn), .val (.int be), .val (.ref b1), .val (.ref b4), .val .null, .unset, .unset, .unset, .unset, .unset, .unset, .unset, .unset, .unset]) rfl ?_
      show Steps p.tables e below (T7.setTop (mkF m 149 #[.val (.int p1), .val (.int p2), .val (.int p3), .val (.int p4), .val (.int p5), .val (.int bo), .val (.int bn), .val (.int be), .val (.ref b1), .val (.ref b4), .val .null, .unset, .unset, .unset, .unset, .unset, .unset, .unset, .unset, .unset] [])) _
      exact k
    clear V3
    obtain ⟨T65, h65, X65, e65, E65, A65, D65, -, st65⟩ := newO X7 hx hZ hown (hw _ (List.mem_of_getElem? (i := 1) rfl)) (hw _ (List.mem_of_getElem? (i := 2) rfl)) (hw _ (List.mem_of_getElem? (i := 3) rfl)) e7 (g := (mkF m 149 #[.val (.int p1), .val (.int p2), .val (.int p3), .val (.int p4), .val (.int p5), .val (.int bo), .val (.int bn), .val (.int be), .val (.ref b1), .val (.ref b4), .val .null, .unset, .unset, .unset, .unset, .unset, .unset, .unset, .unset, .unset] [])) rfl (hb hby at_149) (by decide) (by decide)
    obtain ⟨b65, g65⟩ : ∃ z, z = h7.size := ⟨_, rfl⟩
    rw [← g65] at A65 D65 st65
    have lt_b1_b65 : b1 < b65 := Nat.lt_of_lt_of_le G1.lt (Nat.le_of_eq g65.symm)
    have lt_b4_b65 : b4 < b65 := Nat.lt_of_lt_of_le G4.lt (Nat.le_of_eq g65.symm)
    have g_b65 : n0 ≤ b65 := Nat.le_trans (own_oldsz O) (Nat.le_of_eq g65.symm)
    have m_b65_65 : h0.size ≤ b65 := Nat.le_trans KM.1 (Nat.le_of_eq g65.symm)
    replace G1 := G1.ext E65
    replace G4 := G4.ext E65
    replace V7 := V7.ext E65
    replace O := O.ext E65
    replace hk := Nat.le_trans hk E65.1
    replace KM := KM.ext E65
    have F65_coder : Fld Z h65 b65 "java/lang/String" "coder" "B" (.int (0 : Int32)) := D65 (Or.inr (hw _ (List.mem_of_getElem? (i := 27) rfl))) (ty := .byte) (by decide)
    have F65_value : Fld Z h65 b65 "java/lang/String" "value" "[B" .null := D65 (Or.inr (hw _ (List.mem_of_getElem? (i := 29) rfl))) (ty := (.array .byte)) (by decide)
    refine own_go (B := T65.setTop (mkF m 152 #[.val (.int p1), .val (.int p2), .val (.int p3), .val (.int p4), .val (.int p5), .val (.int bo), .val (.int bn), .val (.int be), .val (.ref b1), .val (.ref b4), .val .null, .unset, .unset, .unset, .unset, .unset, .unset, .unset, .unset, .unset] [(.ref b65)])) st65 ?_
    refine own_go (B := T65.setTop (mkF m 155 #[.val (.int p1), .val (.int p2), .val (.int p3), .val (.int p4), .val (.int p5), .val (.int bo), .val (.int bn), .val (.int be), .val (.ref b1), .val (.ref b4), .val .null, .unset, .unset, .unset, .unset, .unset, .unset, .unset, .unset, .unset] [(.ref b4), (.ref b65), (.ref b65)])) (fun t k => ?_) ?_
    · show Steps p.tables e below (T65.setTop (mkF m 152 #[.val (.int p1), .val (.int p2), .val (.int p3), .val (.int p4), .val (.int p5), .val (.int bo), .val (.int bn), .val (.int be), .val (.ref b1), .val (.ref b4), .val .null, .unset, .unset, .unset, .unset, .unset, .unset, .unset, .unset, .unset] [(.ref b65)])) _
      refine XS.dup X65.here hx rfl (hb hby at_152) rfl rfl ?_
      show Steps p.tables e below (T65.setTop (mkF m 153 #[.val (.int p1), .val (.int p2), .val (.int p3), .val (.int p4), .val (.int p5), .val (.int bo), .val (.int bn), .val (.int be), .val (.ref b1), .val (.ref b4), .val .null, .unset, .unset, .unset, .unset, .unset, .unset, .unset, .unset, .unset] [(.ref b65), (.ref b65)])) _
      refine XS.aload X65.here hx rfl (hb hby at_153) rfl rfl ?_
      show Steps p.tables e below (T65.setTop (mkF m 155 #[.val (.int p1), .val (.int p2), .val (.int p3), .val (.int p4), .val (.int p5), .val (.int bo), .val (.int bn), .val (.int be), .val (.ref b1), .val (.ref b4), .val .null, .unset, .unset, .unset, .unset, .unset, .unset, .unset, .unset, .unset] [(.ref b4), (.ref b65), (.ref b65)])) _
      exact k
    have := bc2
    have := bc3
    have := bc4
    have hws : ∀ d ∈ StrChars.Road.words, d.before a0 Z = true := fun d hd => hw d ((by decide +kernel : ∀ d ∈ StrChars.Road.words, d ∈ tables_1) d hd)
    -- pc 155: java/lang/String.<init>
    obtain ⟨_, _, ⟨T66, L66, k66, n66⟩, -, X66, ⟨Lc66, hQ66, l66, y66, z66⟩, st66⟩ := X65.specialBack hx (y := (⟨"java/lang/String", "<init>", "([C)V"⟩ : MethodName)) rfl hown (mvT hZ (hw _ (List.mem_of_getElem? (i := 4) rfl))) (mvT hZ (hw _ (List.mem_of_getElem? (i := 5) rfl))) (mvT hZ (hw _ (List.mem_of_getElem? (i := 6) rfl))) (by decide) (StrChars.Road.backV (W := 1) hZ hws (kI := 4) (hw _ (List.mem_of_getElem? (i := 2) rfl)) (cs := ([c2, c3, c4] : List Int32)) (bs := ([c2, c3, c4] : List Int32).map (fun c => c.toInt8.toInt32)) (n := 3) g_b65 (own_oldsz O) A65 F65_value F65_coder V7 (S_C.ext O.2) hcs rfl rfl (by decide) (by decide) (by intro c hc; simp only [List.mem_cons, List.not_mem_nil, or_false] at hc; rcases hc with rfl | rfl | rfl <;> assumption) rfl (by decide) (by decide)) (g := (mkF m 155 #[.val (.int p1), .val (.int p2), .val (.int p3), .val (.int p4), .val (.int p5), .val (.int bo), .val (.int bn), .val (.int be), .val (.ref b1), .val (.ref b4), .val .null, .unset, .unset, .unset, .unset, .unset, .unset, .unset, .unset, .unset] [(.ref b4), (.ref b65), (.ref b65)])) rfl (by rw [hml]; rfl) (Steps.refl _) (a := b65) (argsL := [(.ref b4)]) (rest := [(.ref b65)]) (lenOf pd_4 rfl) rfl (by show 2 * 0 + _ ≤ _; exact Nat.le_of_eq rfl) (hb hby at_155) (fun _ hWm => ⟨rfl, e65, (by decide : 3 + 1 ≤ _), (by decide : 9 + 3 ≤ _)⟩)
    dsimp only [Pt.U, Pt.locs, Pt.cells, Pt.slots] at X66 l66 y66 z66 st66 hQ66
    subst l66 y66 z66
    obtain ⟨rfl, Nq66, Kq66, Gq66_0, Gq66_1, t66, kb66, u66, fq66, nq66, Gq66_2, Gq66_3⟩ := hQ66
    replace N := Fr.app N Nq66
    have lt_b1_t66 : b1 < t66 := Nat.lt_of_lt_of_le G1.lt fq66
    have lt_b4_t66 : b4 < t66 := Nat.lt_of_lt_of_le G4.lt fq66
    have lt_b65_t66 : b65 < t66 := Nat.lt_of_lt_of_le A65.lt fq66
    have g_t66 : n0 ≤ t66 := Nat.le_trans (own_oldsz O) fq66
    have m_t66_66 : h0.size ≤ t66 := Nat.le_trans KM.1 fq66
    replace G1 := G1.keep Kq66
    replace G4 := G4.keep Kq66
    replace V7 := V7.keep Kq66 (ninS (Nat.ne_of_lt lt_b4_b65) nin0)
    replace A65 := A65.keep Kq66
    clear F65_coder
    clear F65_value
    replace O := O.keep Kq66 (allS g_b65 all0)
    replace hk := Nat.le_trans hk Kq66.1
    replace KM := KM.trans Kq66 (allS (Or.inr m_b65_65) all0)
    refine own_go (B := T66.setTop (mkF m 158 #[.val (.int p1), .val (.int p2), .val (.int p3), .val (.int p4), .val (.int p5), .val (.int bo), .val (.int bn), .val (.int be), .val (.ref b1), .val (.ref b4), .val .null, .unset, .unset, .unset, .unset, .unset, .unset, .unset, .unset, .unset] [(.ref b65)])) (fun t k => st66.trans k) ?_
    refine own_go (B := T66.setTop (mkF m 160 #[.val (.int p1), .val (.int p2), .val (.int p3), .val (.int p4), .val (.int p5), .val (.int bo), .val (.int bn), .val (.int be), .val (.ref b1), .val (.ref b4), .val .null, .val (.ref b65), .unset, .unset, .unset, .unset, .unset, .unset, .unset, .unset] [])) (fun t k => ?_) ?_
    · show Steps p.tables e below (T66.setTop (mkF m 158 #[.val (.int p1), .val (.int p2), .val (.int p3), .val (.int p4), .val (.int p5), .val (.int bo), .val (.int bn), .val (.int be), .val (.ref b1), .val (.ref b4), .val .null, .unset, .unset, .unset, .unset, .unset, .unset, .unset, .unset, .unset] [(.ref b65)])) _
      refine XS.astore X66.here hx rfl (hb hby at_158) rfl rfl (l' := #[.val (.int p1), .val (.int p2), .val (.int p3), .val (.int p4), .val (.int p5), .val (.int bo), .val (.int bn), .val (.int be), .val (.ref b1), .val (.ref b4), .val .null, .val (.ref b65), .unset, .unset, .unset, .unset, .unset, .unset, .unset, .unset]) rfl ?_
      show Steps p.tables e below (T66.setTop (mkF m 160 #[.val (.int p1), .val (.int p2), .val (.int p3), .val (.int p4), .val (.int p5), .val (.int bo), .val (.int bn), .val (.int be), .val (.ref b1), .val (.ref b4), .val .null, .val (.ref b65), .unset, .unset, .unset, .unset, .unset, .unset, .unset, .unset] [])) _
      exact k
    clear V7 Gq66_1 Gq66_2 Gq66_3
    refine own_go (B := T66.setTop (mkF m 162 #[.val (.int p1), .val (.int p2), .val (.int p3), .val (.int p4), .val (.int p5), .val (.int bo), .val (.int bn), .val (.int be), .val (.ref b1), .val (.ref b4), .val .null, .val (.ref b65), .unset, .unset, .unset, .unset, .unset, .unset, .unset, .unset] [(.int bo)])) (fun t k => ?_) ?_
    · show Steps p.tables e below (T66.setTop (mkF m 160 #[.val (.int p1), .val (.int p2), .val (.int p3), .val (.int p4), .val (.int p5), .val (.int bo), .val (.int bn), .val (.int be), .val (.ref b1), .val (.ref b4), .val .null, .val (.ref b65), .unset, .unset, .unset, .unset, .unset, .unset, .unset, .unset] [])) _
      refine XS.iload X66.here hx rfl (hb hby at_160) rfl ?_
      show Steps p.tables e below (T66.setTop (mkF m 162 #[.val (.int p1), .val (.int p2), .val (.int p3), .val (.int p4), .val (.int p5), .val (.int bo), .val (.int bn), .val (.int be), .val (.ref b1), .val (.ref b4), .val .null, .val (.ref b65), .unset, .unset, .unset, .unset, .unset, .unset, .unset, .unset] [(.int bo)])) _
      exact k
    by_cases ko : bo = (0 : Int32)
    · refine own_go (B := T66.setTop (mkF m 182 #[.val (.int p1), .val (.int p2), .val (.int p3), .val (.int p4), .val (.int p5), .val (.int bo), .val (.int bn), .val (.int be), .val (.ref b1), .val (.ref b4), .val .null, .val (.ref b65), .val .null, .unset, .unset, .unset, .unset, .unset, .unset, .unset] [])) (fun t k => ?_) ?_
      · show Steps p.tables e below (T66.setTop (mkF m 162 #[.val (.int p1), .val (.int p2), .val (.int p3), .val (.int p4), .val (.int p5), .val (.int bo), .val (.int bn), .val (.int be), .val (.ref b1), .val (.ref b4), .val .null, .val (.ref b65), .unset, .unset, .unset, .unset, .unset, .unset, .unset, .unset] [(.int bo)])) _
        refine XS.ifYes X66.here hx rfl (pc0 := 162) (pc' := 179) rfl (hb hby at_162) rfl ((if0 _ _).trans (teq ko).1) (by decide) (by decide) ?_
        show Steps p.tables e below (T66.setTop (mkF m 179 #[.val (.int p1), .val (.int p2), .val (.int p3), .val (.int p4), .val (.int p5), .val (.int bo), .val (.int bn), .val (.int be), .val (.ref b1), .val (.ref b4), .val .null, .val (.ref b65), .unset, .unset, .unset, .unset, .unset, .unset, .unset, .unset] [])) _
        refine XS.aconstNull X66.here hx rfl (hb hby at_179) ?_
        show Steps p.tables e below (T66.setTop (mkF m 180 #[.val (.int p1), .val (.int p2), .val (.int p3), .val (.int p4), .val (.int p5), .val (.int bo), .val (.int bn), .val (.int be), .val (.ref b1), .val (.ref b4), .val .null, .val (.ref b65), .unset, .unset, .unset, .unset, .unset, .unset, .unset, .unset] [.null])) _
        refine XS.astore X66.here hx rfl (hb hby at_180) rfl rfl (l' := #[.val (.int p1), .val (.int p2), .val (.int p3), .val (.int p4), .val (.int p5), .val (.int bo), .val (.int bn), .val (.int be), .val (.ref b1), .val (.ref b4), .val .null, .val (.ref b65), .val .null, .unset, .unset, .unset, .unset, .unset, .unset, .unset]) rfl ?_
        show Steps p.tables e below (T66.setTop (mkF m 182 #[.val (.int p1), .val (.int p2), .val (.int p3), .val (.int p4), .val (.int p5), .val (.int bo), .val (.int bn), .val (.int be), .val (.ref b1), .val (.ref b4), .val .null, .val (.ref b65), .val .null, .unset, .unset, .unset, .unset, .unset, .unset, .unset] [])) _
        exact k
      obtain ⟨T67, h67, X67, e67, E67, A67, D67, -, st67⟩ := newO X66 hx hZ hown (hw _ (List.mem_of_getElem? (i := 30) rfl)) (hw _ (List.mem_of_getElem? (i := 31) rfl)) (hw _ (List.mem_of_getElem? (i := 32) rfl)) rfl (g := (mkF m 182 #[.val (.int p1), .val (.int p2), .val (.int p3), .val (.int p4), .val (.int p5), .val (.int bo), .val (.int bn), .val (.int be), .val (.ref b1), .val (.ref b4), .val .null, .val (.ref b65), .val .null, .unset, .unset, .unset, .unset, .unset, .unset, .unset] [])) rfl (hb hby at_182) (by decide) (by decide)
      obtain ⟨b67, g67⟩ : ∃ z, z = T66.heap.size := ⟨_, rfl⟩
      rw [← g67] at A67 D67 st67
      have lt_b1_b67 : b1 < b67 := Nat.lt_of_lt_of_le G1.lt (Nat.le_of_eq g67.symm)
      have lt_b4_b67 : b4 < b67 := Nat.lt_of_lt_of_le G4.lt (Nat.le_of_eq g67.symm)
      have lt_b65_b67 : b65 < b67 := Nat.lt_of_lt_of_le Gq66_0.lt (Nat.le_of_eq g67.symm)
      have g_b67 : n0 ≤ b67 := Nat.le_trans (own_oldsz O) (Nat.le_of_eq g67.symm)
      have m_b67_67 : h0.size ≤ b67 := Nat.le_trans KM.1 (Nat.le_of_eq g67.symm)
      replace G1 := G1.ext E67
      replace G4 := G4.ext E67
      replace Gq66_0 := Gq66_0.ext E67
      replace O := O.ext E67
      replace hk := Nat.le_trans hk E67.1
      replace KM := KM.ext E67
      have F67_text : Fld Z h67 b67 "com/example/fieldloom/fieldloom/mapping/Value" "text" "Ljava/lang/String;" .null := D67 (Or.inr (hw _ (List.mem_of_getElem? (i := 43) rfl))) (ty := (.object "java/lang/String")) (by decide)
      have F67_occurrence : Fld Z h67 b67 "com/example/fieldloom/fieldloom/mapping/Value" "occurrence" "Lcom/example/fieldloom/fieldloom/mapping/FieldOccurrence;" .null := D67 (Or.inr (hw _ (List.mem_of_getElem? (i := 45) rfl))) (ty := (.object "com/example/fieldloom/fieldloom/mapping/FieldOccurrence")) (by decide)
      have F67_position : Fld Z h67 b67 "com/example/fieldloom/fieldloom/mapping/Value" "position" "I" (.int (0 : Int32)) := D67 (Or.inr (hw _ (List.mem_of_getElem? (i := 47) rfl))) (ty := .int) (by decide)
      refine own_go (B := T67.setTop (mkF m 185 #[.val (.int p1), .val (.int p2), .val (.int p3), .val (.int p4), .val (.int p5), .val (.int bo), .val (.int bn), .val (.int be), .val (.ref b1), .val (.ref b4), .val .null, .val (.ref b65), .val .null, .unset, .unset, .unset, .unset, .unset, .unset, .unset] [(.ref b67)])) st67 ?_
      refine own_go (B := T67.setTop (mkF m 191 #[.val (.int p1), .val (.int p2), .val (.int p3), .val (.int p4), .val (.int p5), .val (.int bo), .val (.int bn), .val (.int be), .val (.ref b1), .val (.ref b4), .val .null, .val (.ref b65), .val .null, .unset, .unset, .unset, .unset, .unset, .unset, .unset] [(.int p3), .null, (.ref b65), (.ref b67), (.ref b67)])) (fun t k => ?_) ?_
      · show Steps p.tables e below (T67.setTop (mkF m 185 #[.val (.int p1), .val (.int p2), .val (.int p3), .val (.int p4), .val (.int p5), .val (.int bo), .val (.int bn), .val (.int be), .val (.ref b1), .val (.ref b4), .val .null, .val (.ref b65), .val .null, .unset, .unset, .unset, .unset, .unset, .unset, .unset] [(.ref b67)])) _
        refine XS.dup X67.here hx rfl (hb hby at_185) rfl rfl ?_
        show Steps p.tables e below (T67.setTop (mkF m 186 #[.val (.int p1), .val (.int p2), .val (.int p3), .val (.int p4), .val (.int p5), .val (.int bo), .val (.int bn), .val (.int be), .val (.ref b1), .val (.ref b4), .val .null, .val (.ref b65), .val .null, .unset, .unset, .unset, .unset, .unset, .unset, .unset] [(.ref b67), (.ref b67)])) _
        refine XS.aload X67.here hx rfl (hb hby at_186) rfl rfl ?_
        show Steps p.tables e below (T67.setTop (mkF m 188 #[.val (.int p1), .val (.int p2), .val (.int p3), .val (.int p4), .val (.int p5), .val (.int bo), .val (.int bn), .val (.int be), .val (.ref b1), .val (.ref b4), .val .null, .val (.ref b65), .val .null, .unset, .unset, .unset, .unset, .unset, .unset, .unset] [(.ref b65), (.ref b67), (.ref b67)])) _
        refine XS.aload X67.here hx rfl (hb hby at_188) rfl rfl ?_
        show Steps p.tables e below (T67.setTop (mkF m 190 #[.val (.int p1), .val (.int p2), .val (.int p3), .val (.int p4), .val (.int p5), .val (.int bo), .val (.int bn), .val (.int be), .val (.ref b1), .val (.ref b4), .val .null, .val (.ref b65), .val .null, .unset, .unset, .unset, .unset, .unset, .unset, .unset] [.null, (.ref b65), (.ref b67), (.ref b67)])) _
        refine XS.iloadN X67.here hx rfl (hb hby at_190) rfl ?_
        show Steps p.tables e below (T67.setTop (mkF m 191 #[.val (.int p1), .val (.int p2), .val (.int p3), .val (.int p4), .val (.int p5), .val (.int bo), .val (.int bn), .val (.int be), .val (.ref b1), .val (.ref b4), .val .null, .val (.ref b65), .val .null, .unset, .unset, .unset, .unset, .unset, .unset, .unset] [(.int p3), .null, (.ref b65), (.ref b67), (.ref b67)])) _
        exact k
      -- pc 191: com/example/fieldloom/fieldloom/mapping/Value.<init>
      obtain ⟨_, _, ⟨T68, L68, k68, n68⟩, -, X68, ⟨Lc68, hQ68, l68, y68, z68⟩, st68⟩ := X67.specialBack hx (y := (⟨"com/example/fieldloom/fieldloom/mapping/Value", "<init>", "(Ljava/lang/String;Lcom/example/fieldloom/fieldloom/mapping/FieldOccurrence;I)V"⟩ : MethodName)) rfl hown (mvT hZ (hw _ (List.mem_of_getElem? (i := 33) rfl))) (mvT hZ (hw _ (List.mem_of_getElem? (i := 34) rfl))) (mvT hZ (hw _ (List.mem_of_getElem? (i := 35) rfl))) (by decide) (backOf (W := 1) (rmV3 l Z a0 hw [] b67 (.ref b65) (.null) p3 h67 n0 O A67 F67_text F67_occurrence F67_position g_b67 rfl rfl) hZ (hw _ (List.mem_of_getElem? (i := 35) rfl)) (hw _ (List.mem_of_getElem? (i := 32) rfl)) (by decide) (by decide)) (g := (mkF m 191 #[.val (.int p1), .val (.int p2), .val (.int p3), .val (.int p4), .val (.int p5), .val (.int bo), .val (.int bn), .val (.int be), .val (.ref b1), .val (.ref b4), .val .null, .val (.ref b65), .val .null, .unset, .unset, .unset, .unset, .unset, .unset, .unset] [(.int p3), .null, (.ref b65), (.ref b67), (.ref b67)])) rfl (by rw [hml]; rfl) (Steps.refl _) (a := b67) (argsL := [(.ref b65), .null, (.int p3)]) (rest := [(.ref b67)]) (lenOf pd_2 rfl) rfl (by show 2 * 0 + _ ≤ _; exact Nat.le_of_eq rfl) (hb hby at_191) (fun _ hWm => ⟨rfl, e67, (by decide : 5 + 0 ≤ _), (by decide : 15 + 0 ≤ _)⟩)
      dsimp only [Pt.U, Pt.locs, Pt.cells, Pt.slots] at X68 l68 y68 z68 st68 hQ68
      subst l68 y68 z68
      obtain ⟨rfl, Nq68, Kq68, Gq68_0, Gq68_1, Gq68_2⟩ := hQ68
      replace N := Fr.app N Nq68
      replace G1 := G1.keep Kq68
      replace G4 := G4.keep Kq68
      replace Gq66_0 := Gq66_0.keep Kq68
      replace A67 := A67.keep Kq68
      clear F67_text
      clear F67_occurrence
      clear F67_position
      replace O := O.keep Kq68 (allS g_b67 all0)
      replace hk := Nat.le_trans hk Kq68.1
      replace KM := KM.trans Kq68 (allS (Or.inr m_b67_67) all0)
      refine own_go (B := T68.setTop (mkF m 194 #[.val (.int p1), .val (.int p2), .val (.int p3), .val (.int p4), .val (.int p5), .val (.int bo), .val (.int bn), .val (.int be), .val (.ref b1), .val (.ref b4), .val .null, .val (.ref b65), .val .null, .unset, .unset, .unset, .unset, .unset, .unset, .unset] [(.ref b67)])) (fun t k => st68.trans k) ?_
      refine own_go (B := T68.setTop (mkF m 200 #[.val (.int p1), .val (.int p2), .val (.int p3), .val (.int p4), .val (.int p5), .val (.int bo), .val (.int bn), .val (.int be), .val (.ref b1), .val (.ref b4), .val .null, .val (.ref b65), .val .null, .val (.ref b67), .unset, .unset, .unset, .unset, .unset, .unset] [.null, (.ref b67)])) (fun t k => ?_) ?_
      · show Steps p.tables e below (T68.setTop (mkF m 194 #[.val (.int p1), .val (.int p2), .val (.int p3), .val (.int p4), .val (.int p5), .val (.int bo), .val (.int bn), .val (.int be), .val (.ref b1), .val (.ref b4), .val .null, .val (.ref b65), .val .null, .unset, .unset, .unset, .unset, .unset, .unset, .unset] [(.ref b67)])) _
        refine XS.astore X68.here hx rfl (hb hby at_194) rfl rfl (l' := #[.val (.int p1), .val (.int p2), .val (.int p3), .val (.int p4), .val (.int p5), .val (.int bo), .val (.int bn), .val (.int be), .val (.ref b1), .val (.ref b4), .val .null, .val (.ref b65), .val .null, .val (.ref b67), .unset, .unset, .unset, .unset, .unset, .unset]) rfl ?_
        show Steps p.tables e below (T68.setTop (mkF m 196 #[.val (.int p1), .val (.int p2), .val (.int p3), .val (.int p4), .val (.int p5), .val (.int bo), .val (.int bn), .val (.int be), .val (.ref b1), .val (.ref b4), .val .null, .val (.ref b65), .val .null, .val (.ref b67), .unset, .unset, .unset, .unset, .unset, .unset] [])) _
        refine XS.aload X68.here hx rfl (hb hby at_196) rfl rfl ?_
        show Steps p.tables e below (T68.setTop (mkF m 198 #[.val (.int p1), .val (.int p2), .val (.int p3), .val (.int p4), .val (.int p5), .val (.int bo), .val (.int bn), .val (.int be), .val (.ref b1), .val (.ref b4), .val .null, .val (.ref b65), .val .null, .val (.ref b67), .unset, .unset, .unset, .unset, .unset, .unset] [(.ref b67)])) _
        refine XS.aload X68.here hx rfl (hb hby at_198) rfl rfl ?_
        show Steps p.tables e below (T68.setTop (mkF m 200 #[.val (.int p1), .val (.int p2), .val (.int p3), .val (.int p4), .val (.int p5), .val (.int bo), .val (.int bn), .val (.int be), .val (.ref b1), .val (.ref b4), .val .null, .val (.ref b65), .val .null, .val (.ref b67), .unset, .unset, .unset, .unset, .unset, .unset] [.null, (.ref b67)])) _
        exact k
      -- pc 200: com/example/fieldloom/fieldloom/mapping/Value.withText
      obtain ⟨cq69, kq69, q69a, q69b, q69c⟩ := isOf hZ rfl A67
      obtain ⟨_, _, ⟨T69, L69, k69, n69⟩, -, X69, ⟨Lc69, hQ69, l69, y69, z69⟩, st69⟩ := X68.virtualBack hx (y := (⟨"com/example/fieldloom/fieldloom/mapping/Value", "withText", "(Ljava/lang/String;)Lcom/example/fieldloom/fieldloom/mapping/Value;"⟩ : MethodName)) (z := (⟨"com/example/fieldloom/fieldloom/mapping/Value", "withText", "(Ljava/lang/String;)Lcom/example/fieldloom/fieldloom/mapping/Value;"⟩ : MethodName)) hown (mvT hZ (hw _ (List.mem_of_getElem? (i := 48) rfl))) (mvT hZ (hw _ (List.mem_of_getElem? (i := 49) rfl))) (notFace_of_selects (args := #[]) (mvT hZ (hw _ (List.mem_of_getElem? (i := 51) rfl)))) (mvT hZ (hw _ (List.mem_of_getElem? (i := 51) rfl))) (mvT hZ (hw _ (List.mem_of_getElem? (i := 50) rfl))) (by decide) (backOf (W := 0) (rmWT l Z a0 hw [] b67 (.null) (.null) T68.heap n0 O Gq68_1 rfl rfl) hZ (hw _ (List.mem_of_getElem? (i := 52) rfl)) (hw _ (List.mem_of_getElem? (i := 32) rfl)) (by decide) (by decide)) q69a q69c (g := (mkF m 200 #[.val (.int p1), .val (.int p2), .val (.int p3), .val (.int p4), .val (.int p5), .val (.int bo), .val (.int bn), .val (.int be), .val (.ref b1), .val (.ref b4), .val .null, .val (.ref b65), .val .null, .val (.ref b67), .unset, .unset, .unset, .unset, .unset, .unset] [.null, (.ref b67)])) rfl (by rw [hml]; rfl) (Steps.refl _) (argsL := [.null]) (rest := []) (lenOf pd_5 rfl) rfl (by show 2 * 0 + _ ≤ _; exact Nat.le_of_eq rfl) (hb hby at_200) (fun _ hWm => ⟨rfl, rfl, (by decide : 5 + 1 ≤ _), (by decide : 15 + 3 ≤ _)⟩)
      dsimp only [Pt.U, Pt.locs, Pt.cells, Pt.slots] at X69 l69 y69 z69 st69 hQ69
      subst l69 y69 z69
      obtain ⟨r69, rfl, Nq69, Kq69, fq69_r, Gq69_0, Gq69_1, Gq69_2, Gq69_3⟩ := hQ69
      replace N := Fr.app N Nq69
      have lt_b1_r69 : b1 < r69 := Nat.lt_of_lt_of_le G1.lt fq69_r
      have lt_b4_r69 : b4 < r69 := Nat.lt_of_lt_of_le G4.lt fq69_r
      have lt_b65_r69 : b65 < r69 := Nat.lt_of_lt_of_le Gq66_0.lt fq69_r
      have lt_b67_r69 : b67 < r69 := Nat.lt_of_lt_of_le A67.lt fq69_r
      have g_r69 : n0 ≤ r69 := Nat.le_trans (own_oldsz O) fq69_r
      have m_r69_69 : h0.size ≤ r69 := Nat.le_trans KM.1 fq69_r
      replace G1 := G1.keep Kq69
      replace G4 := G4.keep Kq69
      replace Gq66_0 := Gq66_0.keep Kq69
      replace A67 := A67.keep Kq69
      replace Gq68_0 := Gq68_0.keep Kq69 nin0
      replace Gq68_1 := Gq68_1.keep Kq69 nin0
      replace Gq68_2 := Gq68_2.keep Kq69 nin0
      replace O := O.keep Kq69 all0
      replace hk := Nat.le_trans hk Kq69.1
      replace KM := KM.trans Kq69 all0
      refine own_go (B := T69.setTop (mkF m 203 #[.val (.int p1), .val (.int p2), .val (.int p3), .val (.int p4), .val (.int p5), .val (.int bo), .val (.int bn), .val (.int be), .val (.ref b1), .val (.ref b4), .val .null, .val (.ref b65), .val .null, .val (.ref b67), .unset, .unset, .unset, .unset, .unset, .unset] [(.ref r69)])) (fun t k => st69.trans k) ?_
      refine own_go (B := T69.setTop (mkF m 207 #[.val (.int p1), .val (.int p2), .val (.int p3), .val (.int p4), .val (.int p5), .val (.int bo), .val (.int bn), .val (.int be), .val (.ref b1), .val (.ref b4), .val .null, .val (.ref b65), .val .null, .val (.ref b67), .val (.ref r69), .unset, .unset, .unset, .unset, .unset] [(.ref r69)])) (fun t k => ?_) ?_
      · show Steps p.tables e below (T69.setTop (mkF m 203 #[.val (.int p1), .val (.int p2), .val (.int p3), .val (.int p4), .val (.int p5), .val (.int bo), .val (.int bn), .val (.int be), .val (.ref b1), .val (.ref b4), .val .null, .val (.ref b65), .val .null, .val (.ref b67), .unset, .unset, .unset, .unset, .unset, .unset] [(.ref r69)])) _
        refine XS.astore X69.here hx rfl (hb hby at_203) rfl rfl (l' := #[.val (.int p1), .val (.int p2), .val (.int p3), .val (.int p4), .val (.int p5), .val (.int bo), .val (.int bn), .val (.int be), .val (.ref b1), .val (.ref b4), .val .null, .val (.ref b65), .val .null, .val (.ref b67), .val (.ref r69), .unset, .unset, .unset, .unset, .unset]) rfl ?_
        show Steps p.tables e below (T69.setTop (mkF m 205 #[.val (.int p1), .val (.int p2), .val (.int p3), .val (.int p4), .val (.int p5), .val (.int bo), .val (.int bn), .val (.int be), .val (.ref b1), .val (.ref b4), .val .null, .val (.ref b65), .val .null, .val (.ref b67), .val (.ref r69), .unset, .unset, .unset, .unset, .unset] [])) _
        refine XS.aload X69.here hx rfl (hb hby at_205) rfl rfl ?_
        show Steps p.tables e below (T69.setTop (mkF m 207 #[.val (.int p1), .val (.int p2), .val (.int p3), .val (.int p4), .val (.int p5), .val (.int bo), .val (.int bn), .val (.int be), .val (.ref b1), .val (.ref b4), .val .null, .val (.ref b65), .val .null, .val (.ref b67), .val (.ref r69), .unset, .unset, .unset, .unset, .unset] [(.ref r69)])) _
        exact k
      -- pc 207: com/example/fieldloom/fieldloom/mapping/Value.text
      obtain ⟨cq70, kq70, q70a, q70b, q70c⟩ := isOf hZ rfl Gq69_0
      obtain ⟨_, _, ⟨T70, L70, k70, n70⟩, -, X70, ⟨Lc70, hQ70, l70, y70, z70⟩, st70⟩ := X69.virtualBack hx (y := (⟨"com/example/fieldloom/fieldloom/mapping/Value", "text", "()Ljava/lang/String;"⟩ : MethodName)) (z := (⟨"com/example/fieldloom/fieldloom/mapping/Value", "text", "()Ljava/lang/String;"⟩ : MethodName)) hown (mvT hZ (hw _ (List.mem_of_getElem? (i := 58) rfl))) (mvT hZ (hw _ (List.mem_of_getElem? (i := 59) rfl))) (notFace_of_selects (args := #[]) (mvT hZ (hw _ (List.mem_of_getElem? (i := 61) rfl)))) (mvT hZ (hw _ (List.mem_of_getElem? (i := 61) rfl))) (mvT hZ (hw _ (List.mem_of_getElem? (i := 60) rfl))) (by decide) (backOf (W := 0) (rmGt l Z a0 hw [] r69 (.null) T69.heap n0 O Gq69_1 rfl) hZ (hw _ (List.mem_of_getElem? (i := 62) rfl)) (hw _ (List.mem_of_getElem? (i := 32) rfl)) (by decide) (by decide)) q70a q70c (g := (mkF m 207 #[.val (.int p1), .val (.int p2), .val (.int p3), .val (.int p4), .val (.int p5), .val (.int bo), .val (.int bn), .val (.int be), .val (.ref b1), .val (.ref b4), .val .null, .val (.ref b65), .val .null, .val (.ref b67), .val (.ref r69), .unset, .unset, .unset, .unset, .unset] [(.ref r69)])) rfl (by rw [hml]; rfl) (Steps.refl _) (argsL := []) (rest := []) (lenOf pd_6 rfl) rfl (by show 2 * 0 + _ ≤ _; exact Nat.le_of_eq rfl) (hb hby at_207) (fun _ hWm => ⟨rfl, rfl, (by decide : 6 + 0 ≤ _), (by decide : 18 + 0 ≤ _)⟩)
      dsimp only [Pt.U, Pt.locs, Pt.cells, Pt.slots] at X70 l70 y70 z70 st70 hQ70
      subst l70 y70 z70
      obtain ⟨rfl, Nq70, Kq70⟩ := hQ70
      replace N := Fr.app N Nq70
      refine own_go (B := T70.setTop (mkF m 210 #[.val (.int p1), .val (.int p2), .val (.int p3), .val (.int p4), .val (.int p5), .val (.int bo), .val (.int bn), .val (.int be), .val (.ref b1), .val (.ref b4), .val .null, .val (.ref b65), .val .null, .val (.ref b67), .val (.ref r69), .unset, .unset, .unset, .unset, .unset] [.null])) (fun t k => st70.trans k) ?_
      refine own_go (B := T70.setTop (mkF m 254 #[.val (.int p1), .val (.int p2), .val (.int p3), .val (.int p4), .val (.int p5), .val (.int bo), .val (.int bn), .val (.int be), .val (.ref b1), .val (.ref b4), .val .null, .val (.ref b65), .val .null, .val (.ref b67), .val (.ref r69), .val .null, .val (.int (1 : Int32)), .unset, .unset, .unset] [(.ref r69)])) (fun t k => ?_) ?_
      · show Steps p.tables e below (T70.setTop (mkF m 210 #[.val (.int p1), .val (.int p2), .val (.int p3), .val (.int p4), .val (.int p5), .val (.int bo), .val (.int bn), .val (.int be), .val (.ref b1), .val (.ref b4), .val .null, .val (.ref b65), .val .null, .val (.ref b67), .val (.ref r69), .unset, .unset, .unset, .unset, .unset] [.null])) _
        refine XS.astore X70.here hx rfl (hb hby at_210) rfl rfl (l' := #[.val (.int p1), .val (.int p2), .val (.int p3), .val (.int p4), .val (.int p5), .val (.int bo), .val (.int bn), .val (.int be), .val (.ref b1), .val (.ref b4), .val .null, .val (.ref b65), .val .null, .val (.ref b67), .val (.ref r69), .val .null, .unset, .unset, .unset, .unset]) rfl ?_
        show Steps p.tables e below (T70.setTop (mkF m 212 #[.val (.int p1), .val (.int p2), .val (.int p3), .val (.int p4), .val (.int p5), .val (.int bo), .val (.int bn), .val (.int be), .val (.ref b1), .val (.ref b4), .val .null, .val (.ref b65), .val .null, .val (.ref b67), .val (.ref r69), .val .null, .unset, .unset, .unset, .unset] [])) _
        refine XS.aload X70.here hx rfl (hb hby at_212) rfl rfl ?_
        show Steps p.tables e below (T70.setTop (mkF m 214 #[.val (.int p1), .val (.int p2), .val (.int p3), .val (.int p4), .val (.int p5), .val (.int bo), .val (.int bn), .val (.int be), .val (.ref b1), .val (.ref b4), .val .null, .val (.ref b65), .val .null, .val (.ref b67), .val (.ref r69), .val .null, .unset, .unset, .unset, .unset] [.null])) _
        refine XT.ifnonnullNo X70.here hx rfl (hb hby at_214) rfl ?_
        show Steps p.tables e below (T70.setTop (mkF m 217 #[.val (.int p1), .val (.int p2), .val (.int p3), .val (.int p4), .val (.int p5), .val (.int bo), .val (.int bn), .val (.int be), .val (.ref b1), .val (.ref b4), .val .null, .val (.ref b65), .val .null, .val (.ref b67), .val (.ref r69), .val .null, .unset, .unset, .unset, .unset] [])) _
        refine XS.aload X70.here hx rfl (hb hby at_217) rfl rfl ?_
        show Steps p.tables e below (T70.setTop (mkF m 219 #[.val (.int p1), .val (.int p2), .val (.int p3), .val (.int p4), .val (.int p5), .val (.int bo), .val (.int bn), .val (.int be), .val (.ref b1), .val (.ref b4), .val .null, .val (.ref b65), .val .null, .val (.ref b67), .val (.ref r69), .val .null, .unset, .unset, .unset, .unset] [.null])) _
        refine XT.ifnonnullNo X70.here hx rfl (hb hby at_219) rfl ?_
        show Steps p.tables e below (T70.setTop (mkF m 222 #[.val (.int p1), .val (.int p2), .val (.int p3), .val (.int p4), .val (.int p5), .val (.int bo), .val (.int bn), .val (.int be), .val (.ref b1), .val (.ref b4), .val .null, .val (.ref b65), .val .null, .val (.ref b67), .val (.ref r69), .val .null, .unset, .unset, .unset, .unset] [])) _
        refine XS.iconst X70.here hx rfl (hb hby at_222) ?_
        show Steps p.tables e below (T70.setTop (mkF m 223 #[.val (.int p1), .val (.int p2), .val (.int p3), .val (.int p4), .val (.int p5), .val (.int bo), .val (.int bn), .val (.int be), .val (.ref b1), .val (.ref b4), .val .null, .val (.ref b65), .val .null, .val (.ref b67), .val (.ref r69), .val .null, .unset, .unset, .unset, .unset] [(.int (1 : Int32))])) _
        refine XS.goto X70.here hx rfl (pc0 := 223) (pc' := 250) rfl (hb hby at_223) (by decide) (by decide) ?_
        show Steps p.tables e below (T70.setTop (mkF m 250 #[.val (.int p1), .val (.int p2), .val (.int p3), .val (.int p4), .val (.int p5), .val (.int bo), .val (.int bn), .val (.int be), .val (.ref b1), .val (.ref b4), .val .null, .val (.ref b65), .val .null, .val (.ref b67), .val (.ref r69), .val .null, .unset, .unset, .unset, .unset] [(.int (1 : Int32))])) _
        refine XS.istore X70.here hx rfl (hb hby at_250) rfl (l' := #[.val (.int p1), .val (.int p2), .val (.int p3), .val (.int p4), .val (.int p5), .val (.int bo), .val (.int bn), .val (.int be), .val (.ref b1), .val (.ref b4), .val .null, .val (.ref b65), .val .null, .val (.ref b67), .val (.ref r69), .val .null, .val (.int (1 : Int32)), .unset, .unset, .unset]) rfl ?_
        show Steps p.tables e below (T70.setTop (mkF m 252 #[.val (.int p1), .val (.int p2), .val (.int p3), .val (.int p4), .val (.int p5), .val (.int bo), .val (.int bn), .val (.int be), .val (.ref b1), .val (.ref b4), .val .null, .val (.ref b65), .val .null, .val (.ref b67), .val (.ref r69), .val .null, .val (.int (1 : Int32)), .unset, .unset, .unset] [])) _
        refine XS.aload X70.here hx rfl (hb hby at_252) rfl rfl ?_
        show Steps p.tables e below (T70.setTop (mkF m 254 #[.val (.int p1), .val (.int p2), .val (.int p3), .val (.int p4), .val (.int p5), .val (.int bo), .val (.int bn), .val (.int be), .val (.ref b1), .val (.ref b4), .val .null, .val (.ref b65), .val .null, .val (.ref b67), .val (.ref r69), .val .null, .val (.int (1 : Int32)), .unset, .unset, .unset] [(.ref r69)])) _
        exact k
      -- pc 254: com/example/fieldloom/fieldloom/mapping/Value.occurrence
      obtain ⟨cq71, kq71, q71a, q71b, q71c⟩ := isOf hZ Kq70 Gq69_0
      obtain ⟨_, _, ⟨T71, L71, k71, n71⟩, -, X71, ⟨Lc71, hQ71, l71, y71, z71⟩, st71⟩ := X70.virtualBack hx (y := (⟨"com/example/fieldloom/fieldloom/mapping/Value", "occurrence", "()Lcom/example/fieldloom/fieldloom/mapping/FieldOccurrence;"⟩ : MethodName)) (z := (⟨"com/example/fieldloom/fieldloom/mapping/Value", "occurrence", "()Lcom/example/fieldloom/fieldloom/mapping/FieldOccurrence;"⟩ : MethodName)) hown (mvT hZ (hw _ (List.mem_of_getElem? (i := 68) rfl))) (mvT hZ (hw _ (List.mem_of_getElem? (i := 69) rfl))) (notFace_of_selects (args := #[]) (mvT hZ (hw _ (List.mem_of_getElem? (i := 71) rfl)))) (mvT hZ (hw _ (List.mem_of_getElem? (i := 71) rfl))) (mvT hZ (hw _ (List.mem_of_getElem? (i := 70) rfl))) (by decide) (backOf (W := 0) (rmGo l Z a0 hw [] r69 (.null) T69.heap n0 O Gq69_2 rfl) hZ (hw _ (List.mem_of_getElem? (i := 72) rfl)) (hw _ (List.mem_of_getElem? (i := 32) rfl)) (by decide) (by decide)) q71a q71c (g := (mkF m 254 #[.val (.int p1), .val (.int p2), .val (.int p3), .val (.int p4), .val (.int p5), .val (.int bo), .val (.int bn), .val (.int be), .val (.ref b1), .val (.ref b4), .val .null, .val (.ref b65), .val .null, .val (.ref b67), .val (.ref r69), .val .null, .val (.int (1 : Int32)), .unset, .unset, .unset] [(.ref r69)])) rfl (by rw [hml]; rfl) (Steps.refl _) (argsL := []) (rest := []) (lenOf pd_8 rfl) rfl (by show 2 * 0 + _ ≤ _; exact Nat.le_of_eq rfl) (hb hby at_254) (fun _ hWm => ⟨rfl, Kq70, (by decide : 6 + 0 ≤ _), (by decide : 18 + 0 ≤ _)⟩)
      dsimp only [Pt.U, Pt.locs, Pt.cells, Pt.slots] at X71 l71 y71 z71 st71 hQ71
      subst l71 y71 z71
      obtain ⟨rfl, Nq71, Kq71⟩ := hQ71
      replace N := Fr.app N Nq71
      refine own_go (B := T71.setTop (mkF m 257 #[.val (.int p1), .val (.int p2), .val (.int p3), .val (.int p4), .val (.int p5), .val (.int bo), .val (.int bn), .val (.int be), .val (.ref b1), .val (.ref b4), .val .null, .val (.ref b65), .val .null, .val (.ref b67), .val (.ref r69), .val .null, .val (.int (1 : Int32)), .unset, .unset, .unset] [.null])) (fun t k => st71.trans k) ?_
      refine own_go (B := T71.setTop (mkF m 271 #[.val (.int p1), .val (.int p2), .val (.int p3), .val (.int p4), .val (.int p5), .val (.int bo), .val (.int bn), .val (.int be), .val (.ref b1), .val (.ref b4), .val .null, .val (.ref b65), .val .null, .val (.ref b67), .val (.ref r69), .val .null, .val (.int (1 : Int32)), .val (.int (1 : Int32)), .unset, .unset] [(.ref r69)])) (fun t k => ?_) ?_
      · show Steps p.tables e below (T71.setTop (mkF m 257 #[.val (.int p1), .val (.int p2), .val (.int p3), .val (.int p4), .val (.int p5), .val (.int bo), .val (.int bn), .val (.int be), .val (.ref b1), .val (.ref b4), .val .null, .val (.ref b65), .val .null, .val (.ref b67), .val (.ref r69), .val .null, .val (.int (1 : Int32)), .unset, .unset, .unset] [.null])) _
        refine XS.aload X71.here hx rfl (hb hby at_257) rfl rfl ?_
        show Steps p.tables e below (T71.setTop (mkF m 259 #[.val (.int p1), .val (.int p2), .val (.int p3), .val (.int p4), .val (.int p5), .val (.int bo), .val (.int bn), .val (.int be), .val (.ref b1), .val (.ref b4), .val .null, .val (.ref b65), .val .null, .val (.ref b67), .val (.ref r69), .val .null, .val (.int (1 : Int32)), .unset, .unset, .unset] [.null, .null])) _
        refine Jvm.RoadKit.acmp (g := (mkF m 259 #[.val (.int p1), .val (.int p2), .val (.int p3), .val (.int p4), .val (.int p5), .val (.int bo), .val (.int bn), .val (.int be), .val (.ref b1), .val (.ref b4), .val .null, .val (.ref b65), .val .null, .val (.ref b67), .val (.ref r69), .val .null, .val (.int (1 : Int32)), .unset, .unset, .unset] [.null, .null])) X71 hx rfl rfl rfl (pc0 := 259) (pc' := 262) (same := true) rfl (hb hby at_259) rfl (decide_eq_true rfl) (by decide) (by decide) ?_
        show Steps p.tables e below (T71.setTop (mkF m 262 #[.val (.int p1), .val (.int p2), .val (.int p3), .val (.int p4), .val (.int p5), .val (.int bo), .val (.int bn), .val (.int be), .val (.ref b1), .val (.ref b4), .val .null, .val (.ref b65), .val .null, .val (.ref b67), .val (.ref r69), .val .null, .val (.int (1 : Int32)), .unset, .unset, .unset] [])) _
        refine XS.iconst X71.here hx rfl (hb hby at_262) ?_
        show Steps p.tables e below (T71.setTop (mkF m 263 #[.val (.int p1), .val (.int p2), .val (.int p3), .val (.int p4), .val (.int p5), .val (.int bo), .val (.int bn), .val (.int be), .val (.ref b1), .val (.ref b4), .val .null, .val (.ref b65), .val .null, .val (.ref b67), .val (.ref r69), .val .null, .val (.int (1 : Int32)), .unset, .unset, .unset] [(.int (1 : Int32))])) _
        refine XS.goto X71.here hx rfl (pc0 := 263) (pc' := 267) rfl (hb hby at_263) (by decide) (by decide) ?_
        show Steps p.tables e below (T71.setTop (mkF m 267 #[.val (.int p1), .val (.int p2), .val (.int p3), .val (.int p4), .val (.int p5), .val (.int bo), .val (.int bn), .val (.int be), .val (.ref b1), .val (.ref b4), .val .null, .val (.ref b65), .val .null, .val (.ref b67), .val (.ref r69), .val .null, .val (.int (1 : Int32)), .unset, .unset, .unset] [(.int (1 : Int32))])) _
        refine XS.istore X71.here hx rfl (hb hby at_267) rfl (l' := #[.val (.int p1), .val (.int p2), .val (.int p3), .val (.int p4), .val (.int p5), .val (.int bo), .val (.int bn), .val (.int be), .val (.ref b1), .val (.ref b4), .val .null, .val (.ref b65), .val .null, .val (.ref b67), .val (.ref r69), .val .null, .val (.int (1 : Int32)), .val (.int (1 : Int32)), .unset, .unset]) rfl ?_
        show Steps p.tables e below (T71.setTop (mkF m 269 #[.val (.int p1), .val (.int p2), .val (.int p3), .val (.int p4), .val (.int p5), .val (.int bo), .val (.int bn), .val (.int be), .val (.ref b1), .val (.ref b4), .val .null, .val (.ref b65), .val .null, .val (.ref b67), .val (.ref r69), .val .null, .val (.int (1 : Int32)), .val (.int (1 : Int32)), .unset, .unset] [])) _
        refine XS.aload X71.here hx rfl (hb hby at_269) rfl rfl ?_
        show Steps p.tables e below (T71.setTop (mkF m 271 #[.val (.int p1), .val (.int p2), .val (.int p3), .val (.int p4), .val (.int p5), .val (.int bo), .val (.int bn), .val (.int be), .val (.ref b1), .val (.ref b4), .val .null, .val (.ref b65), .val .null, .val (.ref b67), .val (.ref r69), .val .null, .val (.int (1 : Int32)), .val (.int (1 : Int32)), .unset, .unset] [(.ref r69)])) _
        exact k
      -- pc 271: com/example/fieldloom/fieldloom/mapping/Value.position
      obtain ⟨cq72, kq72, q72a, q72b, q72c⟩ := isOf hZ Kq71 Gq69_0
      obtain ⟨_, _, ⟨T72, L72, k72, n72⟩, -, X72, ⟨Lc72, hQ72, l72, y72, z72⟩, st72⟩ := X71.virtualBack hx (y := (⟨"com/example/fieldloom/fieldloom/mapping/Value", "position", "()I"⟩ : MethodName)) (z := (⟨"com/example/fieldloom/fieldloom/mapping/Value", "position", "()I"⟩ : MethodName)) hown (mvT hZ (hw _ (List.mem_of_getElem? (i := 73) rfl))) (mvT hZ (hw _ (List.mem_of_getElem? (i := 74) rfl))) (notFace_of_selects (args := #[]) (mvT hZ (hw _ (List.mem_of_getElem? (i := 76) rfl)))) (mvT hZ (hw _ (List.mem_of_getElem? (i := 76) rfl))) (mvT hZ (hw _ (List.mem_of_getElem? (i := 75) rfl))) (by decide) (backOf (W := 0) (rmGp l Z a0 hw [] r69 (1 : Int32) T69.heap n0 O Gq69_3) hZ (hw _ (List.mem_of_getElem? (i := 77) rfl)) (hw _ (List.mem_of_getElem? (i := 32) rfl)) (by decide) (by decide)) q72a q72c (g := (mkF m 271 #[.val (.int p1), .val (.int p2), .val (.int p3), .val (.int p4), .val (.int p5), .val (.int bo), .val (.int bn), .val (.int be), .val (.ref b1), .val (.ref b4), .val .null, .val (.ref b65), .val .null, .val (.ref b67), .val (.ref r69), .val .null, .val (.int (1 : Int32)), .val (.int (1 : Int32)), .unset, .unset] [(.ref r69)])) rfl (by rw [hml]; rfl) (Steps.refl _) (argsL := []) (rest := []) (lenOf pd_9 rfl) rfl (by show 2 * 0 + _ ≤ _; exact Nat.le_of_eq rfl) (hb hby at_271) (fun _ hWm => ⟨rfl, Kq71, (by decide : 6 + 0 ≤ _), (by decide : 18 + 0 ≤ _)⟩)
      dsimp only [Pt.U, Pt.locs, Pt.cells, Pt.slots] at X72 l72 y72 z72 st72 hQ72
      subst l72 y72 z72
      obtain ⟨rfl, Nq72, Kq72⟩ := hQ72
      replace N := Fr.app N Nq72
      refine own_go (B := T72.setTop (mkF m 274 #[.val (.int p1), .val (.int p2), .val (.int p3), .val (.int p4), .val (.int p5), .val (.int bo), .val (.int bn), .val (.int be), .val (.ref b1), .val (.ref b4), .val .null, .val (.ref b65), .val .null, .val (.ref b67), .val (.ref r69), .val .null, .val (.int (1 : Int32)), .val (.int (1 : Int32)), .unset, .unset] [(.int (1 : Int32))])) (fun t k => st72.trans k) ?_
      refine own_go (B := T72.setTop (mkF m 287 #[.val (.int p1), .val (.int p2), .val (.int p3), .val (.int p4), .val (.int p5), .val (.int bo), .val (.int bn), .val (.int be), .val (.ref b1), .val (.ref b4), .val .null, .val (.ref b65), .val .null, .val (.ref b67), .val (.ref r69), .val .null, .val (.int (1 : Int32)), .val (.int (1 : Int32)), .val (.int (1 : Int32)), .unset] [(.ref b67)])) (fun t k => ?_) ?_
      · show Steps p.tables e below (T72.setTop (mkF m 274 #[.val (.int p1), .val (.int p2), .val (.int p3), .val (.int p4), .val (.int p5), .val (.int bo), .val (.int bn), .val (.int be), .val (.ref b1), .val (.ref b4), .val .null, .val (.ref b65), .val .null, .val (.ref b67), .val (.ref r69), .val .null, .val (.int (1 : Int32)), .val (.int (1 : Int32)), .unset, .unset] [(.int (1 : Int32))])) _
        refine XS.iconst X72.here hx rfl (hb hby at_274) ?_
        show Steps p.tables e below (T72.setTop (mkF m 275 #[.val (.int p1), .val (.int p2), .val (.int p3), .val (.int p4), .val (.int p5), .val (.int bo), .val (.int bn), .val (.int be), .val (.ref b1), .val (.ref b4), .val .null, .val (.ref b65), .val .null, .val (.ref b67), .val (.ref r69), .val .null, .val (.int (1 : Int32)), .val (.int (1 : Int32)), .unset, .unset] [(.int (1 : Int32)), (.int (1 : Int32))])) _
        refine XS.icmpNo X72.here hx rfl (hb hby at_275) rfl (teq rfl).2 ?_
        show Steps p.tables e below (T72.setTop (mkF m 278 #[.val (.int p1), .val (.int p2), .val (.int p3), .val (.int p4), .val (.int p5), .val (.int bo), .val (.int bn), .val (.int be), .val (.ref b1), .val (.ref b4), .val .null, .val (.ref b65), .val .null, .val (.ref b67), .val (.ref r69), .val .null, .val (.int (1 : Int32)), .val (.int (1 : Int32)), .unset, .unset] [])) _
        refine XS.iconst X72.here hx rfl (hb hby at_278) ?_
        show Steps p.tables e below (T72.setTop (mkF m 279 #[.val (.int p1), .val (.int p2), .val (.int p3), .val (.int p4), .val (.int p5), .val (.int bo), .val (.int bn), .val (.int be), .val (.ref b1), .val (.ref b4), .val .null, .val (.ref b65), .val .null, .val (.ref b67), .val (.ref r69), .val .null, .val (.int (1 : Int32)), .val (.int (1 : Int32)), .unset, .unset] [(.int (1 : Int32))])) _
        refine XS.goto X72.here hx rfl (pc0 := 279) (pc' := 283) rfl (hb hby at_279) (by decide) (by decide) ?_
        show Steps p.tables e below (T72.setTop (mkF m 283 #[.val (.int p1), .val (.int p2), .val (.int p3), .val (.int p4), .val (.int p5), .val (.int bo), .val (.int bn), .val (.int be), .val (.ref b1), .val (.ref b4), .val .null, .val (.ref b65), .val .null, .val (.ref b67), .val (.ref r69), .val .null, .val (.int (1 : Int32)), .val (.int (1 : Int32)), .unset, .unset] [(.int (1 : Int32))])) _
        refine XS.istore X72.here hx rfl (hb hby at_283) rfl (l' := #[.val (.int p1), .val (.int p2), .val (.int p3), .val (.int p4), .val (.int p5), .val (.int bo), .val (.int bn), .val (.int be), .val (.ref b1), .val (.ref b4), .val .null, .val (.ref b65), .val .null, .val (.ref b67), .val (.ref r69), .val .null, .val (.int (1 : Int32)), .val (.int (1 : Int32)), .val (.int (1 : Int32)), .unset]) rfl ?_
        show Steps p.tables e below (T72.setTop (mkF m 285 #[.val (.int p1), .val (.int p2), .val (.int p3), .val (.int p4), .val (.int p5), .val (.int bo), .val (.int bn), .val (.int be), .val (.ref b1), .val (.ref b4), .val .null, .val (.ref b65), .val .null, .val (.ref b67), .val (.ref r69), .val .null, .val (.int (1 : Int32)), .val (.int (1 : Int32)), .val (.int (1 : Int32)), .unset] [])) _
        refine XS.aload X72.here hx rfl (hb hby at_285) rfl rfl ?_
        show Steps p.tables e below (T72.setTop (mkF m 287 #[.val (.int p1), .val (.int p2), .val (.int p3), .val (.int p4), .val (.int p5), .val (.int bo), .val (.int bn), .val (.int be), .val (.ref b1), .val (.ref b4), .val .null, .val (.ref b65), .val .null, .val (.ref b67), .val (.ref r69), .val .null, .val (.int (1 : Int32)), .val (.int (1 : Int32)), .val (.int (1 : Int32)), .unset] [(.ref b67)])) _
        exact k
      -- pc 287: com/example/fieldloom/fieldloom/mapping/Value.text
      obtain ⟨cq73, kq73, q73a, q73b, q73c⟩ := isOf hZ Kq72 A67
      obtain ⟨_, _, ⟨T73, L73, k73, n73⟩, -, X73, ⟨Lc73, hQ73, l73, y73, z73⟩, st73⟩ := X72.virtualBack hx (y := (⟨"com/example/fieldloom/fieldloom/mapping/Value", "text", "()Ljava/lang/String;"⟩ : MethodName)) (z := (⟨"com/example/fieldloom/fieldloom/mapping/Value", "text", "()Ljava/lang/String;"⟩ : MethodName)) hown (mvT hZ (hw _ (List.mem_of_getElem? (i := 58) rfl))) (mvT hZ (hw _ (List.mem_of_getElem? (i := 59) rfl))) (notFace_of_selects (args := #[]) (mvT hZ (hw _ (List.mem_of_getElem? (i := 61) rfl)))) (mvT hZ (hw _ (List.mem_of_getElem? (i := 61) rfl))) (mvT hZ (hw _ (List.mem_of_getElem? (i := 60) rfl))) (by decide) (backOf (W := 0) (rmGt l Z a0 hw [] b67 (.ref b65) T69.heap n0 O Gq68_0 rfl) hZ (hw _ (List.mem_of_getElem? (i := 62) rfl)) (hw _ (List.mem_of_getElem? (i := 32) rfl)) (by decide) (by decide)) q73a q73c (g := (mkF m 287 #[.val (.int p1), .val (.int p2), .val (.int p3), .val (.int p4), .val (.int p5), .val (.int bo), .val (.int bn), .val (.int be), .val (.ref b1), .val (.ref b4), .val .null, .val (.ref b65), .val .null, .val (.ref b67), .val (.ref r69), .val .null, .val (.int (1 : Int32)), .val (.int (1 : Int32)), .val (.int (1 : Int32)), .unset] [(.ref b67)])) rfl (by rw [hml]; rfl) (Steps.refl _) (argsL := []) (rest := []) (lenOf pd_6 rfl) rfl (by show 2 * 0 + _ ≤ _; exact Nat.le_of_eq rfl) (hb hby at_287) (fun _ hWm => ⟨rfl, Kq72, (by decide : 6 + 0 ≤ _), (by decide : 18 + 0 ≤ _)⟩)
      dsimp only [Pt.U, Pt.locs, Pt.cells, Pt.slots] at X73 l73 y73 z73 st73 hQ73
      subst l73 y73 z73
      obtain ⟨rfl, Nq73, Kq73⟩ := hQ73
      replace N := Fr.app N Nq73
      refine own_go (B := T73.setTop (mkF m 290 #[.val (.int p1), .val (.int p2), .val (.int p3), .val (.int p4), .val (.int p5), .val (.int bo), .val (.int bn), .val (.int be), .val (.ref b1), .val (.ref b4), .val .null, .val (.ref b65), .val .null, .val (.ref b67), .val (.ref r69), .val .null, .val (.int (1 : Int32)), .val (.int (1 : Int32)), .val (.int (1 : Int32)), .unset] [(.ref b65)])) (fun t k => st73.trans k) ?_
      refine own_go (B := T73.setTop (mkF m 297 #[.val (.int p1), .val (.int p2), .val (.int p3), .val (.int p4), .val (.int p5), .val (.int bo), .val (.int bn), .val (.int be), .val (.ref b1), .val (.ref b4), .val .null, .val (.ref b65), .val .null, .val (.ref b67), .val (.ref r69), .val .null, .val (.int (1 : Int32)), .val (.int (1 : Int32)), .val (.int (1 : Int32)), .unset] [(.ref b67)])) (fun t k => ?_) ?_
      · show Steps p.tables e below (T73.setTop (mkF m 290 #[.val (.int p1), .val (.int p2), .val (.int p3), .val (.int p4), .val (.int p5), .val (.int bo), .val (.int bn), .val (.int be), .val (.ref b1), .val (.ref b4), .val .null, .val (.ref b65), .val .null, .val (.ref b67), .val (.ref r69), .val .null, .val (.int (1 : Int32)), .val (.int (1 : Int32)), .val (.int (1 : Int32)), .unset] [(.ref b65)])) _
        refine XS.aload X73.here hx rfl (hb hby at_290) rfl rfl ?_
        show Steps p.tables e below (T73.setTop (mkF m 292 #[.val (.int p1), .val (.int p2), .val (.int p3), .val (.int p4), .val (.int p5), .val (.int bo), .val (.int bn), .val (.int be), .val (.ref b1), .val (.ref b4), .val .null, .val (.ref b65), .val .null, .val (.ref b67), .val (.ref r69), .val .null, .val (.int (1 : Int32)), .val (.int (1 : Int32)), .val (.int (1 : Int32)), .unset] [(.ref b65), (.ref b65)])) _
        refine Jvm.RoadKit.acmp (g := (mkF m 292 #[.val (.int p1), .val (.int p2), .val (.int p3), .val (.int p4), .val (.int p5), .val (.int bo), .val (.int bn), .val (.int be), .val (.ref b1), .val (.ref b4), .val .null, .val (.ref b65), .val .null, .val (.ref b67), .val (.ref r69), .val .null, .val (.int (1 : Int32)), .val (.int (1 : Int32)), .val (.int (1 : Int32)), .unset] [(.ref b65), (.ref b65)])) X73 hx rfl rfl rfl (pc0 := 292) (pc' := 295) (same := true) rfl (hb hby at_292) rfl (decide_eq_true (congrArg Value.ref rfl)) (by decide) (by decide) ?_
        show Steps p.tables e below (T73.setTop (mkF m 295 #[.val (.int p1), .val (.int p2), .val (.int p3), .val (.int p4), .val (.int p5), .val (.int bo), .val (.int bn), .val (.int be), .val (.ref b1), .val (.ref b4), .val .null, .val (.ref b65), .val .null, .val (.ref b67), .val (.ref r69), .val .null, .val (.int (1 : Int32)), .val (.int (1 : Int32)), .val (.int (1 : Int32)), .unset] [])) _
        refine XS.aload X73.here hx rfl (hb hby at_295) rfl rfl ?_
        show Steps p.tables e below (T73.setTop (mkF m 297 #[.val (.int p1), .val (.int p2), .val (.int p3), .val (.int p4), .val (.int p5), .val (.int bo), .val (.int bn), .val (.int be), .val (.ref b1), .val (.ref b4), .val .null, .val (.ref b65), .val .null, .val (.ref b67), .val (.ref r69), .val .null, .val (.int (1 : Int32)), .val (.int (1 : Int32)), .val (.int (1 : Int32)), .unset] [(.ref b67)])) _
        exact k
      -- pc 297: com/example/fieldloom/fieldloom/mapping/Value.occurrence
      obtain ⟨cq74, kq74, q74a, q74b, q74c⟩ := isOf hZ Kq73 A67
      obtain ⟨_, _, ⟨T74, L74, k74, n74⟩, -, X74, ⟨Lc74, hQ74, l74, y74, z74⟩, st74⟩ := X73.virtualBack hx (y := (⟨"com/example/fieldloom/fieldloom/mapping/Value", "occurrence", "()Lcom/example/fieldloom/fieldloom/mapping/FieldOccurrence;"⟩ : MethodName)) (z := (⟨"com/example/fieldloom/fieldloom/mapping/Value", "occurrence", "()Lcom/example/fieldloom/fieldloom/mapping/FieldOccurrence;"⟩ : MethodName)) hown (mvT hZ (hw _ (List.mem_of_getElem? (i := 68) rfl))) (mvT hZ (hw _ (List.mem_of_getElem? (i := 69) rfl))) (notFace_of_selects (args := #[]) (mvT hZ (hw _ (List.mem_of_getElem? (i := 71) rfl)))) (mvT hZ (hw _ (List.mem_of_getElem? (i := 71) rfl))) (mvT hZ (hw _ (List.mem_of_getElem? (i := 70) rfl))) (by decide) (backOf (W := 0) (rmGo l Z a0 hw [] b67 (.null) T69.heap n0 O Gq68_1 rfl) hZ (hw _ (List.mem_of_getElem? (i := 72) rfl)) (hw _ (List.mem_of_getElem? (i := 32) rfl)) (by decide) (by decide)) q74a q74c (g := (mkF m 297 #[.val (.int p1), .val (.int p2), .val (.int p3), .val (.int p4), .val (.int p5), .val (.int bo), .val (.int bn), .val (.int be), .val (.ref b1), .val (.ref b4), .val .null, .val (.ref b65), .val .null, .val (.ref b67), .val (.ref r69), .val .null, .val (.int (1 : Int32)), .val (.int (1 : Int32)), .val (.int (1 : Int32)), .unset] [(.ref b67)])) rfl (by rw [hml]; rfl) (Steps.refl _) (argsL := []) (rest := []) (lenOf pd_8 rfl) rfl (by show 2 * 0 + _ ≤ _; exact Nat.le_of_eq rfl) (hb hby at_297) (fun _ hWm => ⟨rfl, Kq73, (by decide : 6 + 0 ≤ _), (by decide : 18 + 0 ≤ _)⟩)
      dsimp only [Pt.U, Pt.locs, Pt.cells, Pt.slots] at X74 l74 y74 z74 st74 hQ74
      subst l74 y74 z74
      obtain ⟨rfl, Nq74, Kq74⟩ := hQ74
      replace N := Fr.app N Nq74
      refine own_go (B := T74.setTop (mkF m 300 #[.val (.int p1), .val (.int p2), .val (.int p3), .val (.int p4), .val (.int p5), .val (.int bo), .val (.int bn), .val (.int be), .val (.ref b1), .val (.ref b4), .val .null, .val (.ref b65), .val .null, .val (.ref b67), .val (.ref r69), .val .null, .val (.int (1 : Int32)), .val (.int (1 : Int32)), .val (.int (1 : Int32)), .unset] [.null])) (fun t k => st74.trans k) ?_
      refine own_go (B := T74.setTop (mkF m 307 #[.val (.int p1), .val (.int p2), .val (.int p3), .val (.int p4), .val (.int p5), .val (.int bo), .val (.int bn), .val (.int be), .val (.ref b1), .val (.ref b4), .val .null, .val (.ref b65), .val .null, .val (.ref b67), .val (.ref r69), .val .null, .val (.int (1 : Int32)), .val (.int (1 : Int32)), .val (.int (1 : Int32)), .unset] [(.ref b67)])) (fun t k => ?_) ?_
      · show Steps p.tables e below (T74.setTop (mkF m 300 #[.val (.int p1), .val (.int p2), .val (.int p3), .val (.int p4), .val (.int p5), .val (.int bo), .val (.int bn), .val (.int be), .val (.ref b1), .val (.ref b4), .val .null, .val (.ref b65), .val .null, .val (.ref b67), .val (.ref r69), .val .null, .val (.int (1 : Int32)), .val (.int (1 : Int32)), .val (.int (1 : Int32)), .unset] [.null])) _
        refine XS.aload X74.here hx rfl (hb hby at_300) rfl rfl ?_
        show Steps p.tables e below (T74.setTop (mkF m 302 #[.val (.int p1), .val (.int p2), .val (.int p3), .val (.int p4), .val (.int p5), .val (.int bo), .val (.int bn), .val (.int be), .val (.ref b1), .val (.ref b4), .val .null, .val (.ref b65), .val .null, .val (.ref b67), .val (.ref r69), .val .null, .val (.int (1 : Int32)), .val (.int (1 : Int32)), .val (.int (1 : Int32)), .unset] [.null, .null])) _
        refine Jvm.RoadKit.acmp (g := (mkF m 302 #[.val (.int p1), .val (.int p2), .val (.int p3), .val (.int p4), .val (.int p5), .val (.int bo), .val (.int bn), .val (.int be), .val (.ref b1), .val (.ref b4), .val .null, .val (.ref b65), .val .null, .val (.ref b67), .val (.ref r69), .val .null, .val (.int (1 : Int32)), .val (.int (1 : Int32)), .val (.int (1 : Int32)), .unset] [.null, .null])) X74 hx rfl rfl rfl (pc0 := 302) (pc' := 305) (same := true) rfl (hb hby at_302) rfl (decide_eq_true rfl) (by decide) (by decide) ?_
        show Steps p.tables e below (T74.setTop (mkF m 305 #[.val (.int p1), .val (.int p2), .val (.int p3), .val (.int p4), .val (.int p5), .val (.int bo), .val (.int bn), .val (.int be), .val (.ref b1), .val (.ref b4), .val .null, .val (.ref b65), .val .null, .val (.ref b67), .val (.ref r69), .val .null, .val (.int (1 : Int32)), .val (.int (1 : Int32)), .val (.int (1 : Int32)), .unset] [])) _
        refine XS.aload X74.here hx rfl (hb hby at_305) rfl rfl ?_
        show Steps p.tables e below (T74.setTop (mkF m 307 #[.val (.int p1), .val (.int p2), .val (.int p3), .val (.int p4), .val (.int p5), .val (.int bo), .val (.int bn), .val (.int be), .val (.ref b1), .val (.ref b4), .val .null, .val (.ref b65), .val .null, .val (.ref b67), .val (.ref r69), .val .null, .val (.int (1 : Int32)), .val (.int (1 : Int32)), .val (.int (1 : Int32)), .unset] [(.ref b67)])) _
        exact k
      -- pc 307: com/example/fieldloom/fieldloom/mapping/Value.position
      obtain ⟨cq75, kq75, q75a, q75b, q75c⟩ := isOf hZ Kq74 A67
      obtain ⟨_, _, ⟨T75, L75, k75, n75⟩, -, X75, ⟨Lc75, hQ75, l75, y75, z75⟩, st75⟩ := X74.virtualBack hx (y := (⟨"com/example/fieldloom/fieldloom/mapping/Value", "position", "()I"⟩ : MethodName)) (z := (⟨"com/example/fieldloom/fieldloom/mapping/Value", "position", "()I"⟩ : MethodName)) hown (mvT hZ (hw _ (List.mem_of_getElem? (i := 73) rfl))) (mvT hZ (hw _ (List.mem_of_getElem? (i := 74) rfl))) (notFace_of_selects (args := #[]) (mvT hZ (hw _ (List.mem_of_getElem? (i := 76) rfl)))) (mvT hZ (hw _ (List.mem_of_getElem? (i := 76) rfl))) (mvT hZ (hw _ (List.mem_of_getElem? (i := 75) rfl))) (by decide) (backOf (W := 0) (rmGp l Z a0 hw [] b67 p3 T69.heap n0 O Gq68_2) hZ (hw _ (List.mem_of_getElem? (i := 77) rfl)) (hw _ (List.mem_of_getElem? (i := 32) rfl)) (by decide) (by decide)) q75a q75c (g := (mkF m 307 #[.val (.int p1), .val (.int p2), .val (.int p3), .val (.int p4), .val (.int p5), .val (.int bo), .val (.int bn), .val (.int be), .val (.ref b1), .val (.ref b4), .val .null, .val (.ref b65), .val .null, .val (.ref b67), .val (.ref r69), .val .null, .val (.int (1 : Int32)), .val (.int (1 : Int32)), .val (.int (1 : Int32)), .unset] [(.ref b67)])) rfl (by rw [hml]; rfl) (Steps.refl _) (argsL := []) (rest := []) (lenOf pd_9 rfl) rfl (by show 2 * 0 + _ ≤ _; exact Nat.le_of_eq rfl) (hb hby at_307) (fun _ hWm => ⟨rfl, Kq74, (by decide : 6 + 0 ≤ _), (by decide : 18 + 0 ≤ _)⟩)
      dsimp only [Pt.U, Pt.locs, Pt.cells, Pt.slots] at X75 l75 y75 z75 st75 hQ75
      subst l75 y75 z75
      obtain ⟨rfl, Nq75, Kq75⟩ := hQ75
      replace N := Fr.app N Nq75
      refine own_go (B := T75.setTop (mkF m 310 #[.val (.int p1), .val (.int p2), .val (.int p3), .val (.int p4), .val (.int p5), .val (.int bo), .val (.int bn), .val (.int be), .val (.ref b1), .val (.ref b4), .val .null, .val (.ref b65), .val .null, .val (.ref b67), .val (.ref r69), .val .null, .val (.int (1 : Int32)), .val (.int (1 : Int32)), .val (.int (1 : Int32)), .unset] [(.int p3)])) (fun t k => st75.trans k) ?_
      refine own_go (B := T75.setTop (mkF m 346 #[.val (.int p1), .val (.int p2), .val (.int p3), .val (.int p4), .val (.int p5), .val (.int bo), .val (.int bn), .val (.int be), .val (.ref b1), .val (.ref b4), .val .null, .val (.ref b65), .val .null, .val (.ref b67), .val (.ref r69), .val .null, .val (.int (1 : Int32)), .val (.int (1 : Int32)), .val (.int (1 : Int32)), .val (.int (1 : Int32))] [(.int (1 : Int32))])) (fun t k => ?_) ?_
      · show Steps p.tables e below (T75.setTop (mkF m 310 #[.val (.int p1), .val (.int p2), .val (.int p3), .val (.int p4), .val (.int p5), .val (.int bo), .val (.int bn), .val (.int be), .val (.ref b1), .val (.ref b4), .val .null, .val (.ref b65), .val .null, .val (.ref b67), .val (.ref r69), .val .null, .val (.int (1 : Int32)), .val (.int (1 : Int32)), .val (.int (1 : Int32)), .unset] [(.int p3)])) _
        refine XS.iloadN X75.here hx rfl (hb hby at_310) rfl ?_
        show Steps p.tables e below (T75.setTop (mkF m 311 #[.val (.int p1), .val (.int p2), .val (.int p3), .val (.int p4), .val (.int p5), .val (.int bo), .val (.int bn), .val (.int be), .val (.ref b1), .val (.ref b4), .val .null, .val (.ref b65), .val .null, .val (.ref b67), .val (.ref r69), .val .null, .val (.int (1 : Int32)), .val (.int (1 : Int32)), .val (.int (1 : Int32)), .unset] [(.int p3), (.int p3)])) _
        refine XS.icmpNo X75.here hx rfl (hb hby at_311) rfl (teq rfl).2 ?_
        show Steps p.tables e below (T75.setTop (mkF m 314 #[.val (.int p1), .val (.int p2), .val (.int p3), .val (.int p4), .val (.int p5), .val (.int bo), .val (.int bn), .val (.int be), .val (.ref b1), .val (.ref b4), .val .null, .val (.ref b65), .val .null, .val (.ref b67), .val (.ref r69), .val .null, .val (.int (1 : Int32)), .val (.int (1 : Int32)), .val (.int (1 : Int32)), .unset] [])) _
        refine XS.iconst X75.here hx rfl (hb hby at_314) ?_
        show Steps p.tables e below (T75.setTop (mkF m 315 #[.val (.int p1), .val (.int p2), .val (.int p3), .val (.int p4), .val (.int p5), .val (.int bo), .val (.int bn), .val (.int be), .val (.ref b1), .val (.ref b4), .val .null, .val (.ref b65), .val .null, .val (.ref b67), .val (.ref r69), .val .null, .val (.int (1 : Int32)), .val (.int (1 : Int32)), .val (.int (1 : Int32)), .unset] [(.int (1 : Int32))])) _
        refine XS.goto X75.here hx rfl (pc0 := 315) (pc' := 319) rfl (hb hby at_315) (by decide) (by decide) ?_
        show Steps p.tables e below (T75.setTop (mkF m 319 #[.val (.int p1), .val (.int p2), .val (.int p3), .val (.int p4), .val (.int p5), .val (.int bo), .val (.int bn), .val (.int be), .val (.ref b1), .val (.ref b4), .val .null, .val (.ref b65), .val .null, .val (.ref b67), .val (.ref r69), .val .null, .val (.int (1 : Int32)), .val (.int (1 : Int32)), .val (.int (1 : Int32)), .unset] [(.int (1 : Int32))])) _
        refine XS.istore X75.here hx rfl (hb hby at_319) rfl (l' := #[.val (.int p1), .val (.int p2), .val (.int p3), .val (.int p4), .val (.int p5), .val (.int bo), .val (.int bn), .val (.int be), .val (.ref b1), .val (.ref b4), .val .null, .val (.ref b65), .val .null, .val (.ref b67), .val (.ref r69), .val .null, .val (.int (1 : Int32)), .val (.int (1 : Int32)), .val (.int (1 : Int32)), .val (.int (1 : Int32))]) rfl ?_
        show Steps p.tables e below (T75.setTop (mkF m 321 #[.val (.int p1), .val (.int p2), .val (.int p3), .val (.int p4), .val (.int p5), .val (.int bo), .val (.int bn), .val (.int be), .val (.ref b1), .val (.ref b4), .val .null, .val (.ref b65), .val .null, .val (.ref b67), .val (.ref r69), .val .null, .val (.int (1 : Int32)), .val (.int (1 : Int32)), .val (.int (1 : Int32)), .val (.int (1 : Int32))] [])) _
        refine XS.iload X75.here hx rfl (hb hby at_321) rfl ?_
        show Steps p.tables e below (T75.setTop (mkF m 323 #[.val (.int p1), .val (.int p2), .val (.int p3), .val (.int p4), .val (.int p5), .val (.int bo), .val (.int bn), .val (.int be), .val (.ref b1), .val (.ref b4), .val .null, .val (.ref b65), .val .null, .val (.ref b67), .val (.ref r69), .val .null, .val (.int (1 : Int32)), .val (.int (1 : Int32)), .val (.int (1 : Int32)), .val (.int (1 : Int32))] [(.int (1 : Int32))])) _
        refine XS.ifNo X75.here hx rfl (hb hby at_323) rfl ((if0 _ _).trans (feq (by decide)).1) ?_
        show Steps p.tables e below (T75.setTop (mkF m 326 #[.val (.int p1), .val (.int p2), .val (.int p3), .val (.int p4), .val (.int p5), .val (.int bo), .val (.int bn), .val (.int be), .val (.ref b1), .val (.ref b4), .val .null, .val (.ref b65), .val .null, .val (.ref b67), .val (.ref r69), .val .null, .val (.int (1 : Int32)), .val (.int (1 : Int32)), .val (.int (1 : Int32)), .val (.int (1 : Int32))] [])) _
        refine XS.iload X75.here hx rfl (hb hby at_326) rfl ?_
        show Steps p.tables e below (T75.setTop (mkF m 328 #[.val (.int p1), .val (.int p2), .val (.int p3), .val (.int p4), .val (.int p5), .val (.int bo), .val (.int bn), .val (.int be), .val (.ref b1), .val (.ref b4), .val .null, .val (.ref b65), .val .null, .val (.ref b67), .val (.ref r69), .val .null, .val (.int (1 : Int32)), .val (.int (1 : Int32)), .val (.int (1 : Int32)), .val (.int (1 : Int32))] [(.int (1 : Int32))])) _
        refine XS.ifNo X75.here hx rfl (hb hby at_328) rfl ((if0 _ _).trans (feq (by decide)).1) ?_
        show Steps p.tables e below (T75.setTop (mkF m 331 #[.val (.int p1), .val (.int p2), .val (.int p3), .val (.int p4), .val (.int p5), .val (.int bo), .val (.int bn), .val (.int be), .val (.ref b1), .val (.ref b4), .val .null, .val (.ref b65), .val .null, .val (.ref b67), .val (.ref r69), .val .null, .val (.int (1 : Int32)), .val (.int (1 : Int32)), .val (.int (1 : Int32)), .val (.int (1 : Int32))] [])) _
        refine XS.iload X75.here hx rfl (hb hby at_331) rfl ?_
        show Steps p.tables e below (T75.setTop (mkF m 333 #[.val (.int p1), .val (.int p2), .val (.int p3), .val (.int p4), .val (.int p5), .val (.int bo), .val (.int bn), .val (.int be), .val (.ref b1), .val (.ref b4), .val .null, .val (.ref b65), .val .null, .val (.ref b67), .val (.ref r69), .val .null, .val (.int (1 : Int32)), .val (.int (1 : Int32)), .val (.int (1 : Int32)), .val (.int (1 : Int32))] [(.int (1 : Int32))])) _
        refine XS.ifNo X75.here hx rfl (hb hby at_333) rfl ((if0 _ _).trans (feq (by decide)).1) ?_
        show Steps p.tables e below (T75.setTop (mkF m 336 #[.val (.int p1), .val (.int p2), .val (.int p3), .val (.int p4), .val (.int p5), .val (.int bo), .val (.int bn), .val (.int be), .val (.ref b1), .val (.ref b4), .val .null, .val (.ref b65), .val .null, .val (.ref b67), .val (.ref r69), .val .null, .val (.int (1 : Int32)), .val (.int (1 : Int32)), .val (.int (1 : Int32)), .val (.int (1 : Int32))] [])) _
        refine XS.iload X75.here hx rfl (hb hby at_336) rfl ?_
        show Steps p.tables e below (T75.setTop (mkF m 338 #[.val (.int p1), .val (.int p2), .val (.int p3), .val (.int p4), .val (.int p5), .val (.int bo), .val (.int bn), .val (.int be), .val (.ref b1), .val (.ref b4), .val .null, .val (.ref b65), .val .null, .val (.ref b67), .val (.ref r69), .val .null, .val (.int (1 : Int32)), .val (.int (1 : Int32)), .val (.int (1 : Int32)), .val (.int (1 : Int32))] [(.int (1 : Int32))])) _
        refine XS.ifNo X75.here hx rfl (hb hby at_338) rfl ((if0 _ _).trans (feq (by decide)).1) ?_
        show Steps p.tables e below (T75.setTop (mkF m 341 #[.val (.int p1), .val (.int p2), .val (.int p3), .val (.int p4), .val (.int p5), .val (.int bo), .val (.int bn), .val (.int be), .val (.ref b1), .val (.ref b4), .val .null, .val (.ref b65), .val .null, .val (.ref b67), .val (.ref r69), .val .null, .val (.int (1 : Int32)), .val (.int (1 : Int32)), .val (.int (1 : Int32)), .val (.int (1 : Int32))] [])) _
        refine XS.iconst X75.here hx rfl (hb hby at_341) ?_
        show Steps p.tables e below (T75.setTop (mkF m 342 #[.val (.int p1), .val (.int p2), .val (.int p3), .val (.int p4), .val (.int p5), .val (.int bo), .val (.int bn), .val (.int be), .val (.ref b1), .val (.ref b4), .val .null, .val (.ref b65), .val .null, .val (.ref b67), .val (.ref r69), .val .null, .val (.int (1 : Int32)), .val (.int (1 : Int32)), .val (.int (1 : Int32)), .val (.int (1 : Int32))] [(.int (1 : Int32))])) _
        refine XS.goto X75.here hx rfl (pc0 := 342) (pc' := 346) rfl (hb hby at_342) (by decide) (by decide) ?_
        show Steps p.tables e below (T75.setTop (mkF m 346 #[.val (.int p1), .val (.int p2), .val (.int p3), .val (.int p4), .val (.int p5), .val (.int bo), .val (.int bn), .val (.int be), .val (.ref b1), .val (.ref b4), .val .null, .val (.ref b65), .val .null, .val (.ref b67), .val (.ref r69), .val .null, .val (.int (1 : Int32)), .val (.int (1 : Int32)), .val (.int (1 : Int32)), .val (.int (1 : Int32))] [(.int (1 : Int32))])) _
        exact k
      obtain ⟨fs, hr, hrun, hended, hEnd⟩ := X75.leaveW hS (by rw [Kq75]; exact hk) (v := some (.int (1 : Int32))) (fun h => by rw [Bd.returns] at h; cases h)
      refine ⟨_, _, retN X75 hx (t := .boolean) Bd.returns (by simp) (hb hby at_346) hr, hfin _ _ ⟨hrun, hended, _, _, rfl, ?_, hEnd.1, hEnd.2.1, hEnd.2.2.1, hEnd.2.2.2.mono (by decide) (by decide)⟩⟩
      show Q0 Z p1 p2 p3 p4 p5 zc h0 n0 _ T75.heap _
      rw [Kq75]
      exact ⟨rfl, N⟩
    · refine own_go (B := T66.setTop (mkF m 165 #[.val (.int p1), .val (.int p2), .val (.int p3), .val (.int p4), .val (.int p5), .val (.int bo), .val (.int bn), .val (.int be), .val (.ref b1), .val (.ref b4), .val .null, .val (.ref b65), .unset, .unset, .unset, .unset, .unset, .unset, .unset, .unset] [])) (fun t k => ?_) ?_
      · show Steps p.tables e below (T66.setTop (mkF m 162 #[.val (.int p1), .val (.int p2), .val (.int p3), .val (.int p4), .val (.int p5), .val (.int bo), .val (.int bn), .val (.int be), .val (.ref b1), .val (.ref b4), .val .null, .val (.ref b65), .unset, .unset, .unset, .unset, .unset, .unset, .unset, .unset] [(.int bo)])) _
        refine XS.ifNo X66.here hx rfl (hb hby at_162) rfl ((if0 _ _).trans (feq ko).1) ?_
        show Steps p.tables e below (T66.setTop (mkF m 165 #[.val (.int p1), .val (.int p2), .val (.int p3), .val (.int p4), .val (.int p5), .val (.int bo), .val (.int bn), .val (.int be), .val (.ref b1), .val (.ref b4), .val .null, .val (.ref b65), .unset, .unset, .unset, .unset, .unset, .unset, .unset, .unset] [])) _
        exact k
      obtain ⟨T77, h77, X77, e77, E77, A77, D77, -, st77⟩ := newO X66 hx hZ hown (hw _ (List.mem_of_getElem? (i := 78) rfl)) (hw _ (List.mem_of_getElem? (i := 79) rfl)) (hw _ (List.mem_of_getElem? (i := 80) rfl)) rfl (g := (mkF m 165 #[.val (.int p1), .val (.int p2), .val (.int p3), .val (.int p4), .val (.int p5), .val (.int bo), .val (.int bn), .val (.int be), .val (.ref b1), .val (.ref b4), .val .null, .val (.ref b65), .unset, .unset, .unset, .unset, .unset, .unset, .unset, .unset] [])) rfl (hb hby at_165) (by decide) (by decide)
      obtain ⟨b77, g77⟩ : ∃ z, z = T66.heap.size := ⟨_, rfl⟩
      rw [← g77] at A77 D77 st77
      have lt_b1_b77 : b1 < b77 := Nat.lt_of_lt_of_le G1.lt (Nat.le_of_eq g77.symm)
      have lt_b4_b77 : b4 < b77 := Nat.lt_of_lt_of_le G4.lt (Nat.le_of_eq g77.symm)
      have lt_b65_b77 : b65 < b77 := Nat.lt_of_lt_of_le Gq66_0.lt (Nat.le_of_eq g77.symm)
      have g_b77 : n0 ≤ b77 := Nat.le_trans (own_oldsz O) (Nat.le_of_eq g77.symm)
      have m_b77_77 : h0.size ≤ b77 := Nat.le_trans KM.1 (Nat.le_of_eq g77.symm)
      replace G1 := G1.ext E77
      replace G4 := G4.ext E77
      replace Gq66_0 := Gq66_0.ext E77
      replace O := O.ext E77
      replace hk := Nat.le_trans hk E77.1
      replace KM := KM.ext E77
      have F77_tag : Fld Z h77 b77 "com/example/fieldloom/fieldloom/mapping/FieldOccurrence" "tag" "Ljava/lang/String;" .null := D77 (Or.inr (hw _ (List.mem_of_getElem? (i := 86) rfl))) (ty := (.object "java/lang/String")) (by decide)
      have F77_number : Fld Z h77 b77 "com/example/fieldloom/fieldloom/mapping/FieldOccurrence" "number" "I" (.int (0 : Int32)) := D77 (Or.inr (hw _ (List.mem_of_getElem? (i := 88) rfl))) (ty := .int) (by decide)
      have F77_field : Fld Z h77 b77 "com/example/fieldloom/fieldloom/mapping/FieldOccurrence" "field" "Lcom/example/fieldloom/fieldloom/model/DataField;" .null := D77 (Or.inr (hw _ (List.mem_of_getElem? (i := 90) rfl))) (ty := (.object "com/example/fieldloom/fieldloom/model/DataField")) (by decide)
      refine own_go (B := T77.setTop (mkF m 168 #[.val (.int p1), .val (.int p2), .val (.int p3), .val (.int p4), .val (.int p5), .val (.int bo), .val (.int bn), .val (.int be), .val (.ref b1), .val (.ref b4), .val .null, .val (.ref b65), .unset, .unset, .unset, .unset, .unset, .unset, .unset, .unset] [(.ref b77)])) st77 ?_
      refine own_go (B := T77.setTop (mkF m 173 #[.val (.int p1), .val (.int p2), .val (.int p3), .val (.int p4), .val (.int p5), .val (.int bo), .val (.int bn), .val (.int be), .val (.ref b1), .val (.ref b4), .val .null, .val (.ref b65), .unset, .unset, .unset, .unset, .unset, .unset, .unset, .unset] [.null, (.int p4), (.ref b65), (.ref b77), (.ref b77)])) (fun t k => ?_) ?_
      · show Steps p.tables e below (T77.setTop (mkF m 168 #[.val (.int p1), .val (.int p2), .val (.int p3), .val (.int p4), .val (.int p5), .val (.int bo), .val (.int bn), .val (.int be), .val (.ref b1), .val (.ref b4), .val .null, .val (.ref b65), .unset, .unset, .unset, .unset, .unset, .unset, .unset, .unset] [(.ref b77)])) _
        refine XS.dup X77.here hx rfl (hb hby at_168) rfl rfl ?_
        show Steps p.tables e below (T77.setTop (mkF m 169 #[.val (.int p1), .val (.int p2), .val (.int p3), .val (.int p4), .val (.int p5), .val (.int bo), .val (.int bn), .val (.int be), .val (.ref b1), .val (.ref b4), .val .null, .val (.ref b65), .unset, .unset, .unset, .unset, .unset, .unset, .unset, .unset] [(.ref b77), (.ref b77)])) _
        refine XS.aload X77.here hx rfl (hb hby at_169) rfl rfl ?_
        show Steps p.tables e below (T77.setTop (mkF m 171 #[.val (.int p1), .val (.int p2), .val (.int p3), .val (.int p4), .val (.int p5), .val (.int bo), .val (.int bn), .val (.int be), .val (.ref b1), .val (.ref b4), .val .null, .val (.ref b65), .unset, .unset, .unset, .unset, .unset, .unset, .unset, .unset] [(.ref b65), (.ref b77), (.ref b77)])) _
        refine XS.iloadN X77.here hx rfl (hb hby at_171) rfl ?_
        show Steps p.tables e below (T77.setTop (mkF m 172 #[.val (.int p1), .val (.int p2), .val (.int p3), .val (.int p4), .val (.int p5), .val (.int bo), .val (.int bn), .val (.int be), .val (.ref b1), .val (.ref b4), .val .null, .val (.ref b65), .unset, .unset, .unset, .unset, .unset, .unset, .unset, .unset] [(.int p4), (.ref b65), (.ref b77), (.ref b77)])) _
        refine XS.aconstNull X77.here hx rfl (hb hby at_172) ?_
        show Steps p.tables e below (T77.setTop (mkF m 173 #[.val (.int p1), .val (.int p2), .val (.int p3), .val (.int p4), .val (.int p5), .val (.int bo), .val (.int bn), .val (.int be), .val (.ref b1), .val (.ref b4), .val .null, .val (.ref b65), .unset, .unset, .unset, .unset, .unset, .unset, .unset, .unset] [.null, (.int p4), (.ref b65), (.ref b77), (.ref b77)])) _
        exact k
      -- pc 173: com/example/fieldloom/fieldloom/mapping/FieldOccurrence.<init>
      obtain ⟨_, _, ⟨T78, L78, k78, n78⟩, -, X78, ⟨Lc78, hQ78, l78, y78, z78⟩, st78⟩ := X77.specialBack hx (y := (⟨"com/example/fieldloom/fieldloom/mapping/FieldOccurrence", "<init>", "(Ljava/lang/String;ILcom/example/fieldloom/fieldloom/model/DataField;)V"⟩ : MethodName)) rfl hown (mvT hZ (hw _ (List.mem_of_getElem? (i := 81) rfl))) (mvT hZ (hw _ (List.mem_of_getElem? (i := 82) rfl))) (mvT hZ (hw _ (List.mem_of_getElem? (i := 83) rfl))) (by decide) (backOf (W := 1) (rmFO l Z a0 hw [] b77 b65 p4 h77 n0 O A77 F77_tag F77_number F77_field g_b77) hZ (hw _ (List.mem_of_getElem? (i := 83) rfl)) (hw _ (List.mem_of_getElem? (i := 80) rfl)) (by decide) (by decide)) (g := (mkF m 173 #[.val (.int p1), .val (.int p2), .val (.int p3), .val (.int p4), .val (.int p5), .val (.int bo), .val (.int bn), .val (.int be), .val (.ref b1), .val (.ref b4), .val .null, .val (.ref b65), .unset, .unset, .unset, .unset, .unset, .unset, .unset, .unset] [.null, (.int p4), (.ref b65), (.ref b77), (.ref b77)])) rfl (by rw [hml]; rfl) (Steps.refl _) (a := b77) (argsL := [(.ref b65), (.int p4), .null]) (rest := [(.ref b77)]) (lenOf pd_10 rfl) rfl (by show 2 * 0 + _ ≤ _; exact Nat.le_of_eq rfl) (hb hby at_173) (fun _ hWm => ⟨rfl, e77, (by decide : 5 + 0 ≤ _), (by decide : 15 + 0 ≤ _)⟩)
      dsimp only [Pt.U, Pt.locs, Pt.cells, Pt.slots] at X78 l78 y78 z78 st78 hQ78
      subst l78 y78 z78
      obtain ⟨rfl, Nq78, Kq78⟩ := hQ78
      replace N := Fr.app N Nq78
      replace G1 := G1.keep Kq78
      replace G4 := G4.keep Kq78
      replace Gq66_0 := Gq66_0.keep Kq78
      replace A77 := A77.keep Kq78
      clear F77_tag
      clear F77_number
      clear F77_field
      replace O := O.keep Kq78 (allS g_b77 all0)
      replace hk := Nat.le_trans hk Kq78.1
      replace KM := KM.trans Kq78 (allS (Or.inr m_b77_77) all0)
      refine own_go (B := T78.setTop (mkF m 176 #[.val (.int p1), .val (.int p2), .val (.int p3), .val (.int p4), .val (.int p5), .val (.int bo), .val (.int bn), .val (.int be), .val (.ref b1), .val (.ref b4), .val .null, .val (.ref b65), .unset, .unset, .unset, .unset, .unset, .unset, .unset, .unset] [(.ref b77)])) (fun t k => st78.trans k) ?_
      refine own_go (B := T78.setTop (mkF m 182 #[.val (.int p1), .val (.int p2), .val (.int p3), .val (.int p4), .val (.int p5), .val (.int bo), .val (.int bn), .val (.int be), .val (.ref b1), .val (.ref b4), .val .null, .val (.ref b65), .val (.ref b77), .unset, .unset, .unset, .unset, .unset, .unset, .unset] [])) (fun t k => ?_) ?_
      · show Steps p.tables e below (T78.setTop (mkF m 176 #[.val (.int p1), .val (.int p2), .val (.int p3), .val (.int p4), .val (.int p5), .val (.int bo), .val (.int bn), .val (.int be), .val (.ref b1), .val (.ref b4), .val .null, .val (.ref b65), .unset, .unset, .unset, .unset, .unset, .unset, .unset, .unset] [(.ref b77)])) _
        refine XS.goto X78.here hx rfl (pc0 := 176) (pc' := 180) rfl (hb hby at_176) (by decide) (by decide) ?_
        show Steps p.tables e below (T78.setTop (mkF m 180 #[.val (.int p1), .val (.int p2), .val (.int p3), .val (.int p4), .val (.int p5), .val (.int bo), .val (.int bn), .val (.int be), .val (.ref b1), .val (.ref b4), .val .null, .val (.ref b65), .unset, .unset, .unset, .unset, .unset, .unset, .unset, .unset] [(.ref b77)])) _
        refine XS.astore X78.here hx rfl (hb hby at_180) rfl rfl (l' := #[.val (.int p1), .val (.int p2), .val (.int p3), .val (.int p4), .val (.int p5), .val (.int bo), .val (.int bn), .val (.int be), .val (.ref b1), .val (.ref b4), .val .null, .val (.ref b65), .val (.ref b77), .unset, .unset, .unset, .unset, .unset, .unset, .unset]) rfl ?_
        show Steps p.tables e below (T78.setTop (mkF m 182 #[.val (.int p1), .val (.int p2), .val (.int p3), .val (.int p4), .val (.int p5), .val (.int bo), .val (.int bn), .val (.int be), .val (.ref b1), .val (.ref b4), .val .null, .val (.ref b65), .val (.ref b77), .unset, .unset, .unset, .unset, .unset, .unset, .unset] [])) _
        exact k
      obtain ⟨T79, h79, X79, e79, E79, A79, D79, -, st79⟩ := newO X78 hx hZ hown (hw _ (List.mem_of_getElem? (i := 30) rfl)) (hw _ (List.mem_of_getElem? (i := 31) rfl)) (hw _ (List.mem_of_getElem? (i := 32) rfl)) rfl (g := (mkF m 182 #[.val (.int p1), .val (.int p2), .val (.int p3), .val (.int p4), .val (.int p5), .val (.int bo), .val (.int bn), .val (.int be), .val (.ref b1), .val (.ref b4), .val .null, .val (.ref b65), .val (.ref b77), .unset, .unset, .unset, .unset, .unset, .unset, .unset] [])) rfl (hb hby at_182) (by decide) (by decide)
      obtain ⟨b79, g79⟩ : ∃ z, z = T78.heap.size := ⟨_, rfl⟩
      rw [← g79] at A79 D79 st79
      have lt_b1_b79 : b1 < b79 := Nat.lt_of_lt_of_le G1.lt (Nat.le_of_eq g79.symm)
      have lt_b4_b79 : b4 < b79 := Nat.lt_of_lt_of_le G4.lt (Nat.le_of_eq g79.symm)
      have lt_b65_b79 : b65 < b79 := Nat.lt_of_lt_of_le Gq66_0.lt (Nat.le_of_eq g79.symm)
      have lt_b77_b79 : b77 < b79 := Nat.lt_of_lt_of_le A77.lt (Nat.le_of_eq g79.symm)
      have g_b79 : n0 ≤ b79 := Nat.le_trans (own_oldsz O) (Nat.le_of_eq g79.symm)
      have m_b79_79 : h0.size ≤ b79 := Nat.le_trans KM.1 (Nat.le_of_eq g79.symm)
      replace G1 := G1.ext E79
      replace G4 := G4.ext E79
      replace Gq66_0 := Gq66_0.ext E79
      replace A77 := A77.ext E79
      replace O := O.ext E79
      replace hk := Nat.le_trans hk E79.1
      replace KM := KM.ext E79
      have F79_text : Fld Z h79 b79 "com/example/fieldloom/fieldloom/mapping/Value" "text" "Ljava/lang/String;" .null := D79 (Or.inr (hw _ (List.mem_of_getElem? (i := 43) rfl))) (ty := (.object "java/lang/String")) (by decide)
      have F79_occurrence : Fld Z h79 b79 "com/example/fieldloom/fieldloom/mapping/Value" "occurrence" "Lcom/example/fieldloom/fieldloom/mapping/FieldOccurrence;" .null := D79 (Or.inr (hw _ (List.mem_of_getElem? (i := 45) rfl))) (ty := (.object "com/example/fieldloom/fieldloom/mapping/FieldOccurrence")) (by decide)
      have F79_position : Fld Z h79 b79 "com/example/fieldloom/fieldloom/mapping/Value" "position" "I" (.int (0 : Int32)) := D79 (Or.inr (hw _ (List.mem_of_getElem? (i := 47) rfl))) (ty := .int) (by decide)
      refine own_go (B := T79.setTop (mkF m 185 #[.val (.int p1), .val (.int p2), .val (.int p3), .val (.int p4), .val (.int p5), .val (.int bo), .val (.int bn), .val (.int be), .val (.ref b1), .val (.ref b4), .val .null, .val (.ref b65), .val (.ref b77), .unset, .unset, .unset, .unset, .unset, .unset, .unset] [(.ref b79)])) st79 ?_
      refine own_go (B := T79.setTop (mkF m 191 #[.val (.int p1), .val (.int p2), .val (.int p3), .val (.int p4), .val (.int p5), .val (.int bo), .val (.int bn), .val (.int be), .val (.ref b1), .val (.ref b4), .val .null, .val (.ref b65), .val (.ref b77), .unset, .unset, .unset, .unset, .unset, .unset, .unset] [(.int p3), (.ref b77), (.ref b65), (.ref b79), (.ref b79)])) (fun t k => ?_) ?_
      · show Steps p.tables e below (T79.setTop (mkF m 185 #[.val (.int p1), .val (.int p2), .val (.int p3), .val (.int p4), .val (.int p5), .val (.int bo), .val (.int bn), .val (.int be), .val (.ref b1), .val (.ref b4), .val .null, .val (.ref b65), .val (.ref b77), .unset, .unset, .unset, .unset, .unset, .unset, .unset] [(.ref b79)])) _
        refine XS.dup X79.here hx rfl (hb hby at_185) rfl rfl ?_
        show Steps p.tables e below (T79.setTop (mkF m 186 #[.val (.int p1), .val (.int p2), .val (.int p3), .val (.int p4), .val (.int p5), .val (.int bo), .val (.int bn), .val (.int be), .val (.ref b1), .val (.ref b4), .val .null, .val (.ref b65), .val (.ref b77), .unset, .unset, .unset, .unset, .unset, .unset, .unset] [(.ref b79), (.ref b79)])) _
        refine XS.aload X79.here hx rfl (hb hby at_186) rfl rfl ?_
        show Steps p.tables e below (T79.setTop (mkF m 188 #[.val (.int p1), .val (.int p2), .val (.int p3), .val (.int p4), .val (.int p5), .val (.int bo), .val (.int bn), .val (.int be), .val (.ref b1), .val (.ref b4), .val .null, .val (.ref b65), .val (.ref b77), .unset, .unset, .unset, .unset, .unset, .unset, .unset] [(.ref b65), (.ref b79), (.ref b79)])) _
        refine XS.aload X79.here hx rfl (hb hby at_188) rfl rfl ?_
        show Steps p.tables e below (T79.setTop (mkF m 190 #[.val (.int p1), .val (.int p2), .val (.int p3), .val (.int p4), .val (.int p5), .val (.int bo), .val (.int bn), .val (.int be), .val (.ref b1), .val (.ref b4), .val .null, .val (.ref b65), .val (.ref b77), .unset, .unset, .unset, .unset, .unset, .unset, .unset] [(.ref b77), (.ref b65), (.ref b79), (.ref b79)])) _
        refine XS.iloadN X79.here hx rfl (hb hby at_190) rfl ?_
        show Steps p.tables e below (T79.setTop (mkF m 191 #[.val (.int p1), .val (.int p2), .val (.int p3), .val (.int p4), .val (.int p5), .val (.int bo), .val (.int bn), .val (.int be), .val (.ref b1), .val (.ref b4), .val .null, .val (.ref b65), .val (.ref b77), .unset, .unset, .unset, .unset, .unset, .unset, .unset] [(.int p3), (.ref b77), (.ref b65), (.ref b79), (.ref b79)])) _
        exact k
      -- pc 191: com/example/fieldloom/fieldloom/mapping/Value.<init>
      obtain ⟨_, _, ⟨T80, L80, k80, n80⟩, -, X80, ⟨Lc80, hQ80, l80, y80, z80⟩, st80⟩ := X79.specialBack hx (y := (⟨"com/example/fieldloom/fieldloom/mapping/Value", "<init>", "(Ljava/lang/String;Lcom/example/fieldloom/fieldloom/mapping/FieldOccurrence;I)V"⟩ : MethodName)) rfl hown (mvT hZ (hw _ (List.mem_of_getElem? (i := 33) rfl))) (mvT hZ (hw _ (List.mem_of_getElem? (i := 34) rfl))) (mvT hZ (hw _ (List.mem_of_getElem? (i := 35) rfl))) (by decide) (backOf (W := 1) (rmV3 l Z a0 hw [] b79 (.ref b65) (.ref b77) p3 h79 n0 O A79 F79_text F79_occurrence F79_position g_b79 rfl rfl) hZ (hw _ (List.mem_of_getElem? (i := 35) rfl)) (hw _ (List.mem_of_getElem? (i := 32) rfl)) (by decide) (by decide)) (g := (mkF m 191 #[.val (.int p1), .val (.int p2), .val (.int p3), .val (.int p4), .val (.int p5), .val (.int bo), .val (.int bn), .val (.int be), .val (.ref b1), .val (.ref b4), .val .null, .val (.ref b65), .val (.ref b77), .unset, .unset, .unset, .unset, .unset, .unset, .unset] [(.int p3), (.ref b77), (.ref b65), (.ref b79), (.ref b79)])) rfl (by rw [hml]; rfl) (Steps.refl _) (a := b79) (argsL := [(.ref b65), (.ref b77), (.int p3)]) (rest := [(.ref b79)]) (lenOf pd_2 rfl) rfl (by show 2 * 0 + _ ≤ _; exact Nat.le_of_eq rfl) (hb hby at_191) (fun _ hWm => ⟨rfl, e79, (by decide : 6 + 0 ≤ _), (by decide : 18 + 0 ≤ _)⟩)
      dsimp only [Pt.U, Pt.locs, Pt.cells, Pt.slots] at X80 l80 y80 z80 st80 hQ80
      subst l80 y80 z80
      obtain ⟨rfl, Nq80, Kq80, Gq80_0, Gq80_1, Gq80_2⟩ := hQ80
      replace N := Fr.app N Nq80
      replace G1 := G1.keep Kq80
      replace G4 := G4.keep Kq80
      replace Gq66_0 := Gq66_0.keep Kq80
      replace A77 := A77.keep Kq80
      replace A79 := A79.keep Kq80
      clear F79_text
      clear F79_occurrence
      clear F79_position
      replace O := O.keep Kq80 (allS g_b79 all0)
      replace hk := Nat.le_trans hk Kq80.1
      replace KM := KM.trans Kq80 (allS (Or.inr m_b79_79) all0)
      refine own_go (B := T80.setTop (mkF m 194 #[.val (.int p1), .val (.int p2), .val (.int p3), .val (.int p4), .val (.int p5), .val (.int bo), .val (.int bn), .val (.int be), .val (.ref b1), .val (.ref b4), .val .null, .val (.ref b65), .val (.ref b77), .unset, .unset, .unset, .unset, .unset, .unset, .unset] [(.ref b79)])) (fun t k => st80.trans k) ?_
      refine own_go (B := T80.setTop (mkF m 200 #[.val (.int p1), .val (.int p2), .val (.int p3), .val (.int p4), .val (.int p5), .val (.int bo), .val (.int bn), .val (.int be), .val (.ref b1), .val (.ref b4), .val .null, .val (.ref b65), .val (.ref b77), .val (.ref b79), .unset, .unset, .unset, .unset, .unset, .unset] [.null, (.ref b79)])) (fun t k => ?_) ?_
      · show Steps p.tables e below (T80.setTop (mkF m 194 #[.val (.int p1), .val (.int p2), .val (.int p3), .val (.int p4), .val (.int p5), .val (.int bo), .val (.int bn), .val (.int be), .val (.ref b1), .val (.ref b4), .val .null, .val (.ref b65), .val (.ref b77), .unset, .unset, .unset, .unset, .unset, .unset, .unset] [(.ref b79)])) _
        refine XS.astore X80.here hx rfl (hb hby at_194) rfl rfl (l' := #[.val (.int p1), .val (.int p2), .val (.int p3), .val (.int p4), .val (.int p5), .val (.int bo), .val (.int bn), .val (.int be), .val (.ref b1), .val (.ref b4), .val .null, .val (.ref b65), .val (.ref b77), .val (.ref b79), .unset, .unset, .unset, .unset, .unset, .unset]) rfl ?_
        show Steps p.tables e below (T80.setTop (mkF m 196 #[.val (.int p1), .val (.int p2), .val (.int p3), .val (.int p4), .val (.int p5), .val (.int bo), .val (.int bn), .val (.int be), .val (.ref b1), .val (.ref b4), .val .null, .val (.ref b65), .val (.ref b77), .val (.ref b79), .unset, .unset, .unset, .unset, .unset, .unset] [])) _
        refine XS.aload X80.here hx rfl (hb hby at_196) rfl rfl ?_
        show Steps p.tables e below (T80.setTop (mkF m 198 #[.val (.int p1), .val (.int p2), .val (.int p3), .val (.int p4), .val (.int p5), .val (.int bo), .val (.int bn), .val (.int be), .val (.ref b1), .val (.ref b4), .val .null, .val (.ref b65), .val (.ref b77), .val (.ref b79), .unset, .unset, .unset, .unset, .unset, .unset] [(.ref b79)])) _
        refine XS.aload X80.here hx rfl (hb hby at_198) rfl rfl ?_
        show Steps p.tables e below (T80.setTop (mkF m 200 #[.val (.int p1), .val (.int p2), .val (.int p3), .val (.int p4), .val (.int p5), .val (.int bo), .val (.int bn), .val (.int be), .val (.ref b1), .val (.ref b4), .val .null, .val (.ref b65), .val (.ref b77), .val (.ref b79), .unset, .unset, .unset, .unset, .unset, .unset] [.null, (.ref b79)])) _
        exact k
      -- pc 200: com/example/fieldloom/fieldloom/mapping/Value.withText
      obtain ⟨cq81, kq81, q81a, q81b, q81c⟩ := isOf hZ rfl A79
      obtain ⟨_, _, ⟨T81, L81, k81, n81⟩, -, X81, ⟨Lc81, hQ81, l81, y81, z81⟩, st81⟩ := X80.virtualBack hx (y := (⟨"com/example/fieldloom/fieldloom/mapping/Value", "withText", "(Ljava/lang/String;)Lcom/example/fieldloom/fieldloom/mapping/Value;"⟩ : MethodName)) (z := (⟨"com/example/fieldloom/fieldloom/mapping/Value", "withText", "(Ljava/lang/String;)Lcom/example/fieldloom/fieldloom/mapping/Value;"⟩ : MethodName)) hown (mvT hZ (hw _ (List.mem_of_getElem? (i := 48) rfl))) (mvT hZ (hw _ (List.mem_of_getElem? (i := 49) rfl))) (notFace_of_selects (args := #[]) (mvT hZ (hw _ (List.mem_of_getElem? (i := 51) rfl)))) (mvT hZ (hw _ (List.mem_of_getElem? (i := 51) rfl))) (mvT hZ (hw _ (List.mem_of_getElem? (i := 50) rfl))) (by decide) (backOf (W := 0) (rmWT l Z a0 hw [] b79 (.null) (.ref b77) T80.heap n0 O Gq80_1 rfl rfl) hZ (hw _ (List.mem_of_getElem? (i := 52) rfl)) (hw _ (List.mem_of_getElem? (i := 32) rfl)) (by decide) (by decide)) q81a q81c (g := (mkF m 200 #[.val (.int p1), .val (.int p2), .val (.int p3), .val (.int p4), .val (.int p5), .val (.int bo), .val (.int bn), .val (.int be), .val (.ref b1), .val (.ref b4), .val .null, .val (.ref b65), .val (.ref b77), .val (.ref b79), .unset, .unset, .unset, .unset, .unset, .unset] [.null, (.ref b79)])) rfl (by rw [hml]; rfl) (Steps.refl _) (argsL := [.null]) (rest := []) (lenOf pd_5 rfl) rfl (by show 2 * 0 + _ ≤ _; exact Nat.le_of_eq rfl) (hb hby at_200) (fun _ hWm => ⟨rfl, rfl, (by decide : 6 + 1 ≤ _), (by decide : 18 + 3 ≤ _)⟩)
      dsimp only [Pt.U, Pt.locs, Pt.cells, Pt.slots] at X81 l81 y81 z81 st81 hQ81
      subst l81 y81 z81
      obtain ⟨r81, rfl, Nq81, Kq81, fq81_r, Gq81_0, Gq81_1, Gq81_2, Gq81_3⟩ := hQ81
      replace N := Fr.app N Nq81
      have lt_b1_r81 : b1 < r81 := Nat.lt_of_lt_of_le G1.lt fq81_r
      have lt_b4_r81 : b4 < r81 := Nat.lt_of_lt_of_le G4.lt fq81_r
      have lt_b65_r81 : b65 < r81 := Nat.lt_of_lt_of_le Gq66_0.lt fq81_r
      have lt_b77_r81 : b77 < r81 := Nat.lt_of_lt_of_le A77.lt fq81_r
      have lt_b79_r81 : b79 < r81 := Nat.lt_of_lt_of_le A79.lt fq81_r
      have g_r81 : n0 ≤ r81 := Nat.le_trans (own_oldsz O) fq81_r
      have m_r81_81 : h0.size ≤ r81 := Nat.le_trans KM.1 fq81_r
      replace G1 := G1.keep Kq81
      replace G4 := G4.keep Kq81
      replace Gq66_0 := Gq66_0.keep Kq81
      replace A77 := A77.keep Kq81
      replace A79 := A79.keep Kq81
      replace Gq80_0 := Gq80_0.keep Kq81 nin0
      replace Gq80_1 := Gq80_1.keep Kq81 nin0
      replace Gq80_2 := Gq80_2.keep Kq81 nin0
      replace O := O.keep Kq81 all0
      replace hk := Nat.le_trans hk Kq81.1
      replace KM := KM.trans Kq81 all0
      refine own_go (B := T81.setTop (mkF m 203 #[.val (.int p1), .val (.int p2), .val (.int p3), .val (.int p4), .val (.int p5), .val (.int bo), .val (.int bn), .val (.int be), .val (.ref b1), .val (.ref b4), .val .null, .val (.ref b65), .val (.ref b77), .val (.ref b79), .unset, .unset, .unset, .unset, .unset, .unset] [(.ref r81)])) (fun t k => st81.trans k) ?_
      refine own_go (B := T81.setTop (mkF m 207 #[.val (.int p1), .val (.int p2), .val (.int p3), .val (.int p4), .val (.int p5), .val (.int bo), .val (.int bn), .val (.int be), .val (.ref b1), .val (.ref b4), .val .null, .val (.ref b65), .val (.ref b77), .val (.ref b79), .val (.ref r81), .unset, .unset, .unset, .unset, .unset] [(.ref r81)])) (fun t k => ?_) ?_
      · show Steps p.tables e below (T81.setTop (mkF m 203 #[.val (.int p1), .val (.int p2), .val (.int p3), .val (.int p4), .val (.int p5), .val (.int bo), .val (.int bn), .val (.int be), .val (.ref b1), .val (.ref b4), .val .null, .val (.ref b65), .val (.ref b77), .val (.ref b79), .unset, .unset, .unset, .unset, .unset, .unset] [(.ref r81)])) _
        refine XS.astore X81.here hx rfl (hb hby at_203) rfl rfl (l' := #[.val (.int p1), .val (.int p2), .val (.int p3), .val (.int p4), .val (.int p5), .val (.int bo), .val (.int bn), .val (.int be), .val (.ref b1), .val (.ref b4), .val .null, .val (.ref b65), .val (.ref b77), .val (.ref b79), .val (.ref r81), .unset, .unset, .unset, .unset, .unset]) rfl ?_
        show Steps p.tables e below (T81.setTop (mkF m 205 #[.val (.int p1), .val (.int p2), .val (.int p3), .val (.int p4), .val (.int p5), .val (.int bo), .val (.int bn), .val (.int be), .val (.ref b1), .val (.ref b4), .val .null, .val (.ref b65), .val (.ref b77), .val (.ref b79), .val (.ref r81), .unset, .unset, .unset, .unset, .unset] [])) _
        refine XS.aload X81.here hx rfl (hb hby at_205) rfl rfl ?_
        show Steps p.tables e below (T81.setTop (mkF m 207 #[.val (.int p1), .val (.int p2), .val (.int p3), .val (.int p4), .val (.int p5), .val (.int bo), .val (.int bn), .val (.int be), .val (.ref b1), .val (.ref b4), .val .null, .val (.ref b65), .val (.ref b77), .val (.ref b79), .val (.ref r81), .unset, .unset, .unset, .unset, .unset] [(.ref r81)])) _
        exact k
      -- pc 207: com/example/fieldloom/fieldloom/mapping/Value.text
      obtain ⟨cq82, kq82, q82a, q82b, q82c⟩ := isOf hZ rfl Gq81_0
      obtain ⟨_, _, ⟨T82, L82, k82, n82⟩, -, X82, ⟨Lc82, hQ82, l82, y82, z82⟩, st82⟩ := X81.virtualBack hx (y := (⟨"com/example/fieldloom/fieldloom/mapping/Value", "text", "()Ljava/lang/String;"⟩ : MethodName)) (z := (⟨"com/example/fieldloom/fieldloom/mapping/Value", "text", "()Ljava/lang/String;"⟩ : MethodName)) hown (mvT hZ (hw _ (List.mem_of_getElem? (i := 58) rfl))) (mvT hZ (hw _ (List.mem_of_getElem? (i := 59) rfl))) (notFace_of_selects (args := #[]) (mvT hZ (hw _ (List.mem_of_getElem? (i := 61) rfl)))) (mvT hZ (hw _ (List.mem_of_getElem? (i := 61) rfl))) (mvT hZ (hw _ (List.mem_of_getElem? (i := 60) rfl))) (by decide) (backOf (W := 0) (rmGt l Z a0 hw [] r81 (.null) T81.heap n0 O Gq81_1 rfl) hZ (hw _ (List.mem_of_getElem? (i := 62) rfl)) (hw _ (List.mem_of_getElem? (i := 32) rfl)) (by decide) (by decide)) q82a q82c (g := (mkF m 207 #[.val (.int p1), .val (.int p2), .val (.int p3), .val (.int p4), .val (.int p5), .val (.int bo), .val (.int bn), .val (.int be), .val (.ref b1), .val (.ref b4), .val .null, .val (.ref b65), .val (.ref b77), .val (.ref b79), .val (.ref r81), .unset, .unset, .unset, .unset, .unset] [(.ref r81)])) rfl (by rw [hml]; rfl) (Steps.refl _) (argsL := []) (rest := []) (lenOf pd_6 rfl) rfl (by show 2 * 0 + _ ≤ _; exact Nat.le_of_eq rfl) (hb hby at_207) (fun _ hWm => ⟨rfl, rfl, (by decide : 7 + 0 ≤ _), (by decide : 21 + 0 ≤ _)⟩)
      dsimp only [Pt.U, Pt.locs, Pt.cells, Pt.slots] at X82 l82 y82 z82 st82 hQ82
      subst l82 y82 z82
      obtain ⟨rfl, Nq82, Kq82⟩ := hQ82
      replace N := Fr.app N Nq82
      refine own_go (B := T82.setTop (mkF m 210 #[.val (.int p1), .val (.int p2), .val (.int p3), .val (.int p4), .val (.int p5), .val (.int bo), .val (.int bn), .val (.int be), .val (.ref b1), .val (.ref b4), .val .null, .val (.ref b65), .val (.ref b77), .val (.ref b79), .val (.ref r81), .unset, .unset, .unset, .unset, .unset] [.null])) (fun t k => st82.trans k) ?_
      refine own_go (B := T82.setTop (mkF m 254 #[.val (.int p1), .val (.int p2), .val (.int p3), .val (.int p4), .val (.int p5), .val (.int bo), .val (.int bn), .val (.int be), .val (.ref b1), .val (.ref b4), .val .null, .val (.ref b65), .val (.ref b77), .val (.ref b79), .val (.ref r81), .val .null, .val (.int (1 : Int32)), .unset, .unset, .unset] [(.ref r81)])) (fun t k => ?_) ?_
      · show Steps p.tables e below (T82.setTop (mkF m 210 #[.val (.int p1), .val (.int p2), .val (.int p3), .val (.int p4), .val (.int p5), .val (.int bo), .val (.int bn), .val (.int be), .val (.ref b1), .val (.ref b4), .val .null, .val (.ref b65), .val (.ref b77), .val (.ref b79), .val (.ref r81), .unset, .unset, .unset, .unset, .unset] [.null])) _
        refine XS.astore X82.here hx rfl (hb hby at_210) rfl rfl (l' := #[.val (.int p1), .val (.int p2), .val (.int p3), .val (.int p4), .val (.int p5), .val (.int bo), .val (.int bn), .val (.int be), .val (.ref b1), .val (.ref b4), .val .null, .val (.ref b65), .val (.ref b77), .val (.ref b79), .val (.ref r81), .val .null, .unset, .unset, .unset, .unset]) rfl ?_
        show Steps p.tables e below (T82.setTop (mkF m 212 #[.val (.int p1), .val (.int p2), .val (.int p3), .val (.int p4), .val (.int p5), .val (.int bo), .val (.int bn), .val (.int be), .val (.ref b1), .val (.ref b4), .val .null, .val (.ref b65), .val (.ref b77), .val (.ref b79), .val (.ref r81), .val .null, .unset, .unset, .unset, .unset] [])) _
        refine XS.aload X82.here hx rfl (hb hby at_212) rfl rfl ?_
        show Steps p.tables e below (T82.setTop (mkF m 214 #[.val (.int p1), .val (.int p2), .val (.int p3), .val (.int p4), .val (.int p5), .val (.int bo), .val (.int bn), .val (.int be), .val (.ref b1), .val (.ref b4), .val .null, .val (.ref b65), .val (.ref b77), .val (.ref b79), .val (.ref r81), .val .null, .unset, .unset, .unset, .unset] [.null])) _
        refine XT.ifnonnullNo X82.here hx rfl (hb hby at_214) rfl ?_
        show Steps p.tables e below (T82.setTop (mkF m 217 #[.val (.int p1), .val (.int p2), .val (.int p3), .val (.int p4), .val (.int p5), .val (.int bo), .val (.int bn), .val (.int be), .val (.ref b1), .val (.ref b4), .val .null, .val (.ref b65), .val (.ref b77), .val (.ref b79), .val (.ref r81), .val .null, .unset, .unset, .unset, .unset] [])) _
        refine XS.aload X82.here hx rfl (hb hby at_217) rfl rfl ?_
        show Steps p.tables e below (T82.setTop (mkF m 219 #[.val (.int p1), .val (.int p2), .val (.int p3), .val (.int p4), .val (.int p5), .val (.int bo), .val (.int bn), .val (.int be), .val (.ref b1), .val (.ref b4), .val .null, .val (.ref b65), .val (.ref b77), .val (.ref b79), .val (.ref r81), .val .null, .unset, .unset, .unset, .unset] [.null])) _
        refine XT.ifnonnullNo X82.here hx rfl (hb hby at_219) rfl ?_
        show Steps p.tables e below (T82.setTop (mkF m 222 #[.val (.int p1), .val (.int p2), .val (.int p3), .val (.int p4), .val (.int p5), .val (.int bo), .val (.int bn), .val (.int be), .val (.ref b1), .val (.ref b4), .val .null, .val (.ref b65), .val (.ref b77), .val (.ref b79), .val (.ref r81), .val .null, .unset, .unset, .unset, .unset] [])) _
        refine XS.iconst X82.here hx rfl (hb hby at_222) ?_
        show Steps p.tables e below (T82.setTop (mkF m 223 #[.val (.int p1), .val (.int p2), .val (.int p3), .val (.int p4), .val (.int p5), .val (.int bo), .val (.int bn), .val (.int be), .val (.ref b1), .val (.ref b4), .val .null, .val (.ref b65), .val (.ref b77), .val (.ref b79), .val (.ref r81), .val .null, .unset, .unset, .unset, .unset] [(.int (1 : Int32))])) _
        refine XS.goto X82.here hx rfl (pc0 := 223) (pc' := 250) rfl (hb hby at_223) (by decide) (by decide) ?_
        show Steps p.tables e below (T82.setTop (mkF m 250 #[.val (.int p1), .val (.int p2), .val (.int p3), .val (.int p4), .val (.int p5), .val (.int bo), .val (.int bn), .val (.int be), .val (.ref b1), .val (.ref b4), .val .null, .val (.ref b65), .val (.ref b77), .val (.ref b79), .val (.ref r81), .val .null, .unset, .unset, .unset, .unset] [(.int (1 : Int32))])) _
        refine XS.istore X82.here hx rfl (hb hby at_250) rfl (l' := #[.val (.int p1), .val (.int p2), .val (.int p3), .val (.int p4), .val (.int p5), .val (.int bo), .val (.int bn), .val (.int be), .val (.ref b1), .val (.ref b4), .val .null, .val (.ref b65), .val (.ref b77), .val (.ref b79), .val (.ref r81), .val .null, .val (.int (1 : Int32)), .unset, .unset, .unset]) rfl ?_
        show Steps p.tables e below (T82.setTop (mkF m 252 #[.val (.int p1), .val (.int p2), .val (.int p3), .val (.int p4), .val (.int p5), .val (.int bo), .val (.int bn), .val (.int be), .val (.ref b1), .val (.ref b4), .val .null, .val (.ref b65), .val (.ref b77), .val (.ref b79), .val (.ref r81), .val .null, .val (.int (1 : Int32)), .unset, .unset, .unset] [])) _
        refine XS.aload X82.here hx rfl (hb hby at_252) rfl rfl ?_
        show Steps p.tables e below (T82.setTop (mkF m 254 #[.val (.int p1), .val (.int p2), .val (.int p3), .val (.int p4), .val (.int p5), .val (.int bo), .val (.int bn), .val (.int be), .val (.ref b1), .val (.ref b4), .val .null, .val (.ref b65), .val (.ref b77), .val (.ref b79), .val (.ref r81), .val .null, .val (.int (1 : Int32)), .unset, .unset, .unset] [(.ref r81)])) _
        exact k
      -- pc 254: com/example/fieldloom/fieldloom/mapping/Value.occurrence
      obtain ⟨cq83, kq83, q83a, q83b, q83c⟩ := isOf hZ Kq82 Gq81_0
      obtain ⟨_, _, ⟨T83, L83, k83, n83⟩, -, X83, ⟨Lc83, hQ83, l83, y83, z83⟩, st83⟩ := X82.virtualBack hx (y := (⟨"com/example/fieldloom/fieldloom/mapping/Value", "occurrence", "()Lcom/example/fieldloom/fieldloom/mapping/FieldOccurrence;"⟩ : MethodName)) (z := (⟨"com/example/fieldloom/fieldloom/mapping/Value", "occurrence", "()Lcom/example/fieldloom/fieldloom/mapping/FieldOccurrence;"⟩ : MethodName)) hown (mvT hZ (hw _ (List.mem_of_getElem? (i := 68) rfl))) (mvT hZ (hw _ (List.mem_of_getElem? (i := 69) rfl))) (notFace_of_selects (args := #[]) (mvT hZ (hw _ (List.mem_of_getElem? (i := 71) rfl)))) (mvT hZ (hw _ (List.mem_of_getElem? (i := 71) rfl))) (mvT hZ (hw _ (List.mem_of_getElem? (i := 70) rfl))) (by decide) (backOf (W := 0) (rmGo l Z a0 hw [] r81 (.ref b77) T81.heap n0 O Gq81_2 rfl) hZ (hw _ (List.mem_of_getElem? (i := 72) rfl)) (hw _ (List.mem_of_getElem? (i := 32) rfl)) (by decide) (by decide)) q83a q83c (g := (mkF m 254 #[.val (.int p1), .val (.int p2), .val (.int p3), .val (.int p4), .val (.int p5), .val (.int bo), .val (.int bn), .val (.int be), .val (.ref b1), .val (.ref b4), .val .null, .val (.ref b65), .val (.ref b77), .val (.ref b79), .val (.ref r81), .val .null, .val (.int (1 : Int32)), .unset, .unset, .unset] [(.ref r81)])) rfl (by rw [hml]; rfl) (Steps.refl _) (argsL := []) (rest := []) (lenOf pd_8 rfl) rfl (by show 2 * 0 + _ ≤ _; exact Nat.le_of_eq rfl) (hb hby at_254) (fun _ hWm => ⟨rfl, Kq82, (by decide : 7 + 0 ≤ _), (by decide : 21 + 0 ≤ _)⟩)
      dsimp only [Pt.U, Pt.locs, Pt.cells, Pt.slots] at X83 l83 y83 z83 st83 hQ83
      subst l83 y83 z83
      obtain ⟨rfl, Nq83, Kq83⟩ := hQ83
      replace N := Fr.app N Nq83
      refine own_go (B := T83.setTop (mkF m 257 #[.val (.int p1), .val (.int p2), .val (.int p3), .val (.int p4), .val (.int p5), .val (.int bo), .val (.int bn), .val (.int be), .val (.ref b1), .val (.ref b4), .val .null, .val (.ref b65), .val (.ref b77), .val (.ref b79), .val (.ref r81), .val .null, .val (.int (1 : Int32)), .unset, .unset, .unset] [(.ref b77)])) (fun t k => st83.trans k) ?_
      refine own_go (B := T83.setTop (mkF m 271 #[.val (.int p1), .val (.int p2), .val (.int p3), .val (.int p4), .val (.int p5), .val (.int bo), .val (.int bn), .val (.int be), .val (.ref b1), .val (.ref b4), .val .null, .val (.ref b65), .val (.ref b77), .val (.ref b79), .val (.ref r81), .val .null, .val (.int (1 : Int32)), .val (.int (1 : Int32)), .unset, .unset] [(.ref r81)])) (fun t k => ?_) ?_
      · show Steps p.tables e below (T83.setTop (mkF m 257 #[.val (.int p1), .val (.int p2), .val (.int p3), .val (.int p4), .val (.int p5), .val (.int bo), .val (.int bn), .val (.int be), .val (.ref b1), .val (.ref b4), .val .null, .val (.ref b65), .val (.ref b77), .val (.ref b79), .val (.ref r81), .val .null, .val (.int (1 : Int32)), .unset, .unset, .unset] [(.ref b77)])) _
        refine XS.aload X83.here hx rfl (hb hby at_257) rfl rfl ?_
        show Steps p.tables e below (T83.setTop (mkF m 259 #[.val (.int p1), .val (.int p2), .val (.int p3), .val (.int p4), .val (.int p5), .val (.int bo), .val (.int bn), .val (.int be), .val (.ref b1), .val (.ref b4), .val .null, .val (.ref b65), .val (.ref b77), .val (.ref b79), .val (.ref r81), .val .null, .val (.int (1 : Int32)), .unset, .unset, .unset] [(.ref b77), (.ref b77)])) _
        refine Jvm.RoadKit.acmp (g := (mkF m 259 #[.val (.int p1), .val (.int p2), .val (.int p3), .val (.int p4), .val (.int p5), .val (.int bo), .val (.int bn), .val (.int be), .val (.ref b1), .val (.ref b4), .val .null, .val (.ref b65), .val (.ref b77), .val (.ref b79), .val (.ref r81), .val .null, .val (.int (1 : Int32)), .unset, .unset, .unset] [(.ref b77), (.ref b77)])) X83 hx rfl rfl rfl (pc0 := 259) (pc' := 262) (same := true) rfl (hb hby at_259) rfl (decide_eq_true (congrArg Value.ref rfl)) (by decide) (by decide) ?_
        show Steps p.tables e below (T83.setTop (mkF m 262 #[.val (.int p1), .val (.int p2), .val (.int p3), .val (.int p4), .val (.int p5), .val (.int bo), .val (.int bn), .val (.int be), .val (.ref b1), .val (.ref b4), .val .null, .val (.ref b65), .val (.ref b77), .val (.ref b79), .val (.ref r81), .val .null, .val (.int (1 : Int32)), .unset, .unset, .unset] [])) _
        refine XS.iconst X83.here hx rfl (hb hby at_262) ?_
        show Steps p.tables e below (T83.setTop (mkF m 263 #[.val (.int p1), .val (.int p2), .val (.int p3), .val (.int p4), .val (.int p5), .val (.int bo), .val (.int bn), .val (.int be), .val (.ref b1), .val (.ref b4), .val .null, .val (.ref b65), .val (.ref b77), .val (.ref b79), .val (.ref r81), .val .null, .val (.int (1 : Int32)), .unset, .unset, .unset] [(.int (1 : Int32))])) _
        refine XS.goto X83.here hx rfl (pc0 := 263) (pc' := 267) rfl (hb hby at_263) (by decide) (by decide) ?_
        show Steps p.tables e below (T83.setTop (mkF m 267 #[.val (.int p1), .val (.int p2), .val (.int p3), .val (.int p4), .val (.int p5), .val (.int bo), .val (.int bn), .val (.int be), .val (.ref b1), .val (.ref b4), .val .null, .val (.ref b65), .val (.ref b77), .val (.ref b79), .val (.ref r81), .val .null, .val (.int (1 : Int32)), .unset, .unset, .unset] [(.int (1 : Int32))])) _
        refine XS.istore X83.here hx rfl (hb hby at_267) rfl (l' := #[.val (.int p1), .val (.int p2), .val (.int p3), .val (.int p4), .val (.int p5), .val (.int bo), .val (.int bn), .val (.int be), .val (.ref b1), .val (.ref b4), .val .null, .val (.ref b65), .val (.ref b77), .val (.ref b79), .val (.ref r81), .val .null, .val (.int (1 : Int32)), .val (.int (1 : Int32)), .unset, .unset]) rfl ?_
        show Steps p.tables e below (T83.setTop (mkF m 269 #[.val (.int p1), .val (.int p2), .val (.int p3), .val (.int p4), .val (.int p5), .val (.int bo), .val (.int bn), .val (.int be), .val (.ref b1), .val (.ref b4), .val .null, .val (.ref b65), .val (.ref b77), .val (.ref b79), .val (.ref r81), .val .null, .val (.int (1 : Int32)), .val (.int (1 : Int32)), .unset, .unset] [])) _
        refine XS.aload X83.here hx rfl (hb hby at_269) rfl rfl ?_
        show Steps p.tables e below (T83.setTop (mkF m 271 #[.val (.int p1), .val (.int p2), .val (.int p3), .val (.int p4), .val (.int p5), .val (.int bo), .val (.int bn), .val (.int be), .val (.ref b1), .val (.ref b4), .val .null, .val (.ref b65), .val (.ref b77), .val (.ref b79), .val (.ref r81), .val .null, .val (.int (1 : Int32)), .val (.int (1 : Int32)), .unset, .unset] [(.ref r81)])) _
        exact k
      -- pc 271: com/example/fieldloom/fieldloom/mapping/Value.position
      obtain ⟨cq84, kq84, q84a, q84b, q84c⟩ := isOf hZ Kq83 Gq81_0
      obtain ⟨_, _, ⟨T84, L84, k84, n84⟩, -, X84, ⟨Lc84, hQ84, l84, y84, z84⟩, st84⟩ := X83.virtualBack hx (y := (⟨"com/example/fieldloom/fieldloom/mapping/Value", "position", "()I"⟩ : MethodName)) (z := (⟨"com/example/fieldloom/fieldloom/mapping/Value", "position", "()I"⟩ : MethodName)) hown (mvT hZ (hw _ (List.mem_of_getElem? (i := 73) rfl))) (mvT hZ (hw _ (List.mem_of_getElem? (i := 74) rfl))) (notFace_of_selects (args := #[]) (mvT hZ (hw _ (List.mem_of_getElem? (i := 76) rfl)))) (mvT hZ (hw _ (List.mem_of_getElem? (i := 76) rfl))) (mvT hZ (hw _ (List.mem_of_getElem? (i := 75) rfl))) (by decide) (backOf (W := 0) (rmGp l Z a0 hw [] r81 (1 : Int32) T81.heap n0 O Gq81_3) hZ (hw _ (List.mem_of_getElem? (i := 77) rfl)) (hw _ (List.mem_of_getElem? (i := 32) rfl)) (by decide) (by decide)) q84a q84c (g := (mkF m 271 #[.val (.int p1), .val (.int p2), .val (.int p3), .val (.int p4), .val (.int p5), .val (.int bo), .val (.int bn), .val (.int be), .val (.ref b1), .val (.ref b4), .val .null, .val (.ref b65), .val (.ref b77), .val (.ref b79), .val (.ref r81), .val .null, .val (.int (1 : Int32)), .val (.int (1 : Int32)), .unset, .unset] [(.ref r81)])) rfl (by rw [hml]; rfl) (Steps.refl _) (argsL := []) (rest := []) (lenOf pd_9 rfl) rfl (by show 2 * 0 + _ ≤ _; exact Nat.le_of_eq rfl) (hb hby at_271) (fun _ hWm => ⟨rfl, Kq83, (by decide : 7 + 0 ≤ _), (by decide : 21 + 0 ≤ _)⟩)
      dsimp only [Pt.U, Pt.locs, Pt.cells, Pt.slots] at X84 l84 y84 z84 st84 hQ84
      subst l84 y84 z84
      obtain ⟨rfl, Nq84, Kq84⟩ := hQ84
      replace N := Fr.app N Nq84
      refine own_go (B := T84.setTop (mkF m 274 #[.val (.int p1), .val (.int p2), .val (.int p3), .val (.int p4), .val (.int p5), .val (.int bo), .val (.int bn), .val (.int be), .val (.ref b1), .val (.ref b4), .val .null, .val (.ref b65), .val (.ref b77), .val (.ref b79), .val (.ref r81), .val .null, .val (.int (1 : Int32)), .val (.int (1 : Int32)), .unset, .unset] [(.int (1 : Int32))])) (fun t k => st84.trans k) ?_
      refine own_go (B := T84.setTop (mkF m 287 #[.val (.int p1), .val (.int p2), .val (.int p3), .val (.int p4), .val (.int p5), .val (.int bo), .val (.int bn), .val (.int be), .val (.ref b1), .val (.ref b4), .val .null, .val (.ref b65), .val (.ref b77), .val (.ref b79), .val (.ref r81), .val .null, .val (.int (1 : Int32)), .val (.int (1 : Int32)), .val (.int (1 : Int32)), .unset] [(.ref b79)])) (fun t k => ?_) ?_
      · show Steps p.tables e below (T84.setTop (mkF m 274 #[.val (.int p1), .val (.int p2), .val (.int p3), .val (.int p4), .val (.int p5), .val (.int bo), .val (.int bn), .val (.int be), .val (.ref b1), .val (.ref b4), .val .null, .val (.ref b65), .val (.ref b77), .val (.ref b79), .val (.ref r81), .val .null, .val (.int (1 : Int32)), .val (.int (1 : Int32)), .unset, .unset] [(.int (1 : Int32))])) _
        refine XS.iconst X84.here hx rfl (hb hby at_274) ?_
        show Steps p.tables e below (T84.setTop (mkF m 275 #[.val (.int p1), .val (.int p2), .val (.int p3), .val (.int p4), .val (.int p5), .val (.int bo), .val (.int bn), .val (.int be), .val (.ref b1), .val (.ref b4), .val .null, .val (.ref b65), .val (.ref b77), .val (.ref b79), .val (.ref r81), .val .null, .val (.int (1 : Int32)), .val (.int (1 : Int32)), .unset, .unset] [(.int (1 : Int32)), (.int (1 : Int32))])) _
        refine XS.icmpNo X84.here hx rfl (hb hby at_275) rfl (teq rfl).2 ?_
        show Steps p.tables e below (T84.setTop (mkF m 278 #[.val (.int p1), .val (.int p2), .val (.int p3), .val (.int p4), .val (.int p5), .val (.int bo), .val (.int bn), .val (.int be), .val (.ref b1), .val (.ref b4), .val .null, .val (.ref b65), .val (.ref b77), .val (.ref b79), .val (.ref r81), .val .null, .val (.int (1 : Int32)), .val (.int (1 : Int32)), .unset, .unset] [])) _
        refine XS.iconst X84.here hx rfl (hb hby at_278) ?_
        show Steps p.tables e below (T84.setTop (mkF m 279 #[.val (.int p1), .val (.int p2), .val (.int p3), .val (.int p4), .val (.int p5), .val (.int bo), .val (.int bn), .val (.int be), .val (.ref b1), .val (.ref b4), .val .null, .val (.ref b65), .val (.ref b77), .val (.ref b79), .val (.ref r81), .val .null, .val (.int (1 : Int32)), .val (.int (1 : Int32)), .unset, .unset] [(.int (1 : Int32))])) _
        refine XS.goto X84.here hx rfl (pc0 := 279) (pc' := 283) rfl (hb hby at_279) (by decide) (by decide) ?_
        show Steps p.tables e below (T84.setTop (mkF m 283 #[.val (.int p1), .val (.int p2), .val (.int p3), .val (.int p4), .val (.int p5), .val (.int bo), .val (.int bn), .val (.int be), .val (.ref b1), .val (.ref b4), .val .null, .val (.ref b65), .val (.ref b77), .val (.ref b79), .val (.ref r81), .val .null, .val (.int (1 : Int32)), .val (.int (1 : Int32)), .unset, .unset] [(.int (1 : Int32))])) _
        refine XS.istore X84.here hx rfl (hb hby at_283) rfl (l' := #[.val (.int p1), .val (.int p2), .val (.int p3), .val (.int p4), .val (.int p5), .val (.int bo), .val (.int bn), .val (.int be), .val (.ref b1), .val (.ref b4), .val .null, .val (.ref b65), .val (.ref b77), .val (.ref b79), .val (.ref r81), .val .null, .val (.int (1 : Int32)), .val (.int (1 : Int32)), .val (.int (1 : Int32)), .unset]) rfl ?_
        show Steps p.tables e below (T84.setTop (mkF m 285 #[.val (.int p1), .val (.int p2), .val (.int p3), .val (.int p4), .val (.int p5), .val (.int bo), .val (.int bn), .val (.int be), .val (.ref b1), .val (.ref b4), .val .null, .val (.ref b65), .val (.ref b77), .val (.ref b79), .val (.ref r81), .val .null, .val (.int (1 : Int32)), .val (.int (1 : Int32)), .val (.int (1 : Int32)), .unset] [])) _
        refine XS.aload X84.here hx rfl (hb hby at_285) rfl rfl ?_
        show Steps p.tables e below (T84.setTop (mkF m 287 #[.val (.int p1), .val (.int p2), .val (.int p3), .val (.int p4), .val (.int p5), .val (.int bo), .val (.int bn), .val (.int be), .val (.ref b1), .val (.ref b4), .val .null, .val (.ref b65), .val (.ref b77), .val (.ref b79), .val (.ref r81), .val .null, .val (.int (1 : Int32)), .val (.int (1 : Int32)), .val (.int (1 : Int32)), .unset] [(.ref b79)])) _
        exact k
      -- pc 287: com/example/fieldloom/fieldloom/mapping/Value.text
      obtain ⟨cq85, kq85, q85a, q85b, q85c⟩ := isOf hZ Kq84 A79
      obtain ⟨_, _, ⟨T85, L85, k85, n85⟩, -, X85, ⟨Lc85, hQ85, l85, y85, z85⟩, st85⟩ := X84.virtualBack hx (y := (⟨"com/example/fieldloom/fieldloom/mapping/Value", "text", "()Ljava/lang/String;"⟩ : MethodName)) (z := (⟨"com/example/fieldloom/fieldloom/mapping/Value", "text", "()Ljava/lang/String;"⟩ : MethodName)) hown (mvT hZ (hw _ (List.mem_of_getElem? (i := 58) rfl))) (mvT hZ (hw _ (List.mem_of_getElem? (i := 59) rfl))) (notFace_of_selects (args := #[]) (mvT hZ (hw _ (List.mem_of_getElem? (i := 61) rfl)))) (mvT hZ (hw _ (List.mem_of_getElem? (i := 61) rfl))) (mvT hZ (hw _ (List.mem_of_getElem? (i := 60) rfl))) (by decide) (backOf (W := 0) (rmGt l Z a0 hw [] b79 (.ref b65) T81.heap n0 O Gq80_0 rfl) hZ (hw _ (List.mem_of_getElem? (i := 62) rfl)) (hw _ (List.mem_of_getElem? (i := 32) rfl)) (by decide) (by decide)) q85a q85c (g := (mkF m 287 #[.val (.int p1), .val (.int p2), .val (.int p3), .val (.int p4), .val (.int p5), .val (.int bo), .val (.int bn), .val (.int be), .val (.ref b1), .val (.ref b4), .val .null, .val (.ref b65), .val (.ref b77), .val (.ref b79), .val (.ref r81), .val .null, .val (.int (1 : Int32)), .val (.int (1 : Int32)), .val (.int (1 : Int32)), .unset] [(.ref b79)])) rfl (by rw [hml]; rfl) (Steps.refl _) (argsL := []) (rest := []) (lenOf pd_6 rfl) rfl (by show 2 * 0 + _ ≤ _; exact Nat.le_of_eq rfl) (hb hby at_287) (fun _ hWm => ⟨rfl, Kq84, (by decide : 7 + 0 ≤ _), (by decide : 21 + 0 ≤ _)⟩)
      dsimp only [Pt.U, Pt.locs, Pt.cells, Pt.slots] at X85 l85 y85 z85 st85 hQ85
      subst l85 y85 z85
      obtain ⟨rfl, Nq85, Kq85⟩ := hQ85
      replace N := Fr.app N Nq85
      refine own_go (B := T85.setTop (mkF m 290 #[.val (.int p1), .val (.int p2), .val (.int p3), .val (.int p4), .val (.int p5), .val (.int bo), .val (.int bn), .val (.int be), .val (.ref b1), .val (.ref b4), .val .null, .val (.ref b65), .val (.ref b77), .val (.ref b79), .val (.ref r81), .val .null, .val (.int (1 : Int32)), .val (.int (1 : Int32)), .val (.int (1 : Int32)), .unset] [(.ref b65)])) (fun t k => st85.trans k) ?_
      refine own_go (B := T85.setTop (mkF m 297 #[.val (.int p1), .val (.int p2), .val (.int p3), .val (.int p4), .val (.int p5), .val (.int bo), .val (.int bn), .val (.int be), .val (.ref b1), .val (.ref b4), .val .null, .val (.ref b65), .val (.ref b77), .val (.ref b79), .val (.ref r81), .val .null, .val (.int (1 : Int32)), .val (.int (1 : Int32)), .val (.int (1 : Int32)), .unset] [(.ref b79)])) (fun t k => ?_) ?_
      · show Steps p.tables e below (T85.setTop (mkF m 290 #[.val (.int p1), .val (.int p2), .val (.int p3), .val (.int p4), .val (.int p5), .val (.int bo), .val (.int bn), .val (.int be), .val (.ref b1), .val (.ref b4), .val .null, .val (.ref b65), .val (.ref b77), .val (.ref b79), .val (.ref r81), .val .null, .val (.int (1 : Int32)), .val (.int (1 : Int32)), .val (.int (1 : Int32)), .unset] [(.ref b65)])) _
        refine XS.aload X85.here hx rfl (hb hby at_290) rfl rfl ?_
        show Steps p.tables e below (T85.setTop (mkF m 292 #[.val (.int p1), .val (.int p2), .val (.int p3), .val (.int p4), .val (.int p5), .val (.int bo), .val (.int bn), .val (.int be), .val (.ref b1), .val (.ref b4), .val .null, .val (.ref b65), .val (.ref b77), .val (.ref b79), .val (.ref r81), .val .null, .val (.int (1 : Int32)), .val (.int (1 : Int32)), .val (.int (1 : Int32)), .unset] [(.ref b65), (.ref b65)])) _
        refine Jvm.RoadKit.acmp (g := (mkF m 292 #[.val (.int p1), .val (.int p2), .val (.int p3), .val (.int p4), .val (.int p5), .val (.int bo), .val (.int bn), .val (.int be), .val (.ref b1), .val (.ref b4), .val .null, .val (.ref b65), .val (.ref b77), .val (.ref b79), .val (.ref r81), .val .null, .val (.int (1 : Int32)), .val (.int (1 : Int32)), .val (.int (1 : Int32)), .unset] [(.ref b65), (.ref b65)])) X85 hx rfl rfl rfl (pc0 := 292) (pc' := 295) (same := true) rfl (hb hby at_292) rfl (decide_eq_true (congrArg Value.ref rfl)) (by decide) (by decide) ?_
        show Steps p.tables e below (T85.setTop (mkF m 295 #[.val (.int p1), .val (.int p2), .val (.int p3), .val (.int p4), .val (.int p5), .val (.int bo), .val (.int bn), .val (.int be), .val (.ref b1), .val (.ref b4), .val .null, .val (.ref b65), .val (.ref b77), .val (.ref b79), .val (.ref r81), .val .null, .val (.int (1 : Int32)), .val (.int (1 : Int32)), .val (.int (1 : Int32)), .unset] [])) _
        refine XS.aload X85.here hx rfl (hb hby at_295) rfl rfl ?_
        show Steps p.tables e below (T85.setTop (mkF m 297 #[.val (.int p1), .val (.int p2), .val (.int p3), .val (.int p4), .val (.int p5), .val (.int bo), .val (.int bn), .val (.int be), .val (.ref b1), .val (.ref b4), .val .null, .val (.ref b65), .val (.ref b77), .val (.ref b79), .val (.ref r81), .val .null, .val (.int (1 : Int32)), .val (.int (1 : Int32)), .val (.int (1 : Int32)), .unset] [(.ref b79)])) _
        exact k
      -- pc 297: com/example/fieldloom/fieldloom/mapping/Value.occurrence
      obtain ⟨cq86, kq86, q86a, q86b, q86c⟩ := isOf hZ Kq85 A79
      obtain ⟨_, _, ⟨T86, L86, k86, n86⟩, -, X86, ⟨Lc86, hQ86, l86, y86, z86⟩, st86⟩ := X85.virtualBack hx (y := (⟨"com/example/fieldloom/fieldloom/mapping/Value", "occurrence", "()Lcom/example/fieldloom/fieldloom/mapping/FieldOccurrence;"⟩ : MethodName)) (z := (⟨"com/example/fieldloom/fieldloom/mapping/Value", "occurrence", "()Lcom/example/fieldloom/fieldloom/mapping/FieldOccurrence;"⟩ : MethodName)) hown (mvT hZ (hw _ (List.mem_of_getElem? (i := 68) rfl))) (mvT hZ (hw _ (List.mem_of_getElem? (i := 69) rfl))) (notFace_of_selects (args := #[]) (mvT hZ (hw _ (List.mem_of_getElem? (i := 71) rfl)))) (mvT hZ (hw _ (List.mem_of_getElem? (i := 71) rfl))) (mvT hZ (hw _ (List.mem_of_getElem? (i := 70) rfl))) (by decide) (backOf (W := 0) (rmGo l Z a0 hw [] b79 (.ref b77) T81.heap n0 O Gq80_1 rfl) hZ (hw _ (List.mem_of_getElem? (i := 72) rfl)) (hw _ (List.mem_of_getElem? (i := 32) rfl)) (by decide) (by decide)) q86a q86c (g := (mkF m 297 #[.val (.int p1), .val (.int p2), .val (.int p3), .val (.int p4), .val (.int p5), .val (.int bo), .val (.int bn), .val (.int be), .val (.ref b1), .val (.ref b4), .val .null, .val (.ref b65), .val (.ref b77), .val (.ref b79), .val (.ref r81), .val .null, .val (.int (1 : Int32)), .val (.int (1 : Int32)), .val (.int (1 : Int32)), .unset] [(.ref b79)])) rfl (by rw [hml]; rfl) (Steps.refl _) (argsL := []) (rest := []) (lenOf pd_8 rfl) rfl (by show 2 * 0 + _ ≤ _; exact Nat.le_of_eq rfl) (hb hby at_297) (fun _ hWm => ⟨rfl, Kq85, (by decide : 7 + 0 ≤ _), (by decide : 21 + 0 ≤ _)⟩)
      dsimp only [Pt.U, Pt.locs, Pt.cells, Pt.slots] at X86 l86 y86 z86 st86 hQ86
      subst l86 y86 z86
      obtain ⟨rfl, Nq86, Kq86⟩ := hQ86
      replace N := Fr.app N Nq86
      refine own_go (B := T86.setTop (mkF m 300 #[.val (.int p1), .val (.int p2), .val (.int p3), .val (.int p4), .val (.int p5), .val (.int bo), .val (.int bn), .val (.int be), .val (.ref b1), .val (.ref b4), .val .null, .val (.ref b65), .val (.ref b77), .val (.ref b79), .val (.ref r81), .val .null, .val (.int (1 : Int32)), .val (.int (1 : Int32)), .val (.int (1 : Int32)), .unset] [(.ref b77)])) (fun t k => st86.trans k) ?_
      refine own_go (B := T86.setTop (mkF m 307 #[.val (.int p1), .val (.int p2), .val (.int p3), .val (.int p4), .val (.int p5), .val (.int bo), .val (.int bn), .val (.int be), .val (.ref b1), .val (.ref b4), .val .null, .val (.ref b65), .val (.ref b77), .val (.ref b79), .val (.ref r81), .val .null, .val (.int (1 : Int32)), .val (.int (1 : Int32)), .val (.int (1 : Int32)), .unset] [(.ref b79)])) (fun t k => ?_) ?_
      · show Steps p.tables e below (T86.setTop (mkF m 300 #[.val (.int p1), .val (.int p2), .val (.int p3), .val (.int p4), .val (.int p5), .val (.int bo), .val (.int bn), .val (.int be), .val (.ref b1), .val (.ref b4), .val .null, .val (.ref b65), .val (.ref b77), .val (.ref b79), .val (.ref r81), .val .null, .val (.int (1 : Int32)), .val (.int (1 : Int32)), .val (.int (1 : Int32)), .unset] [(.ref b77)])) _
        refine XS.aload X86.here hx rfl (hb hby at_300) rfl rfl ?_
        show Steps p.tables e below (T86.setTop (mkF m 302 #[.val (.int p1), .val (.int p2), .val (.int p3), .val (.int p4), .val (.int p5), .val (.int bo), .val (.int bn), .val (.int be), .val (.ref b1), .val (.ref b4), .val .null, .val (.ref b65), .val (.ref b77), .val (.ref b79), .val (.ref r81), .val .null, .val (.int (1 : Int32)), .val (.int (1 : Int32)), .val (.int (1 : Int32)), .unset] [(.ref b77), (.ref b77)])) _
        refine Jvm.RoadKit.acmp (g := (mkF m 302 #[.val (.int p1), .val (.int p2), .val (.int p3), .val (.int p4), .val (.int p5), .val (.int bo), .val (.int bn), .val (.int be), .val (.ref b1), .val (.ref b4), .val .null, .val (.ref b65), .val (.ref b77), .val (.ref b79), .val (.ref r81), .val .null, .val (.int (1 : Int32)), .val (.int (1 : Int32)), .val (.int (1 : Int32)), .unset] [(.ref b77), (.ref b77)])) X86 hx rfl rfl rfl (pc0 := 302) (pc' := 305) (same := true) rfl (hb hby at_302) rfl (decide_eq_true (congrArg Value.ref rfl)) (by decide) (by decide) ?_
        show Steps p.tables e below (T86.setTop (mkF m 305 #[.val (.int p1), .val (.int p2), .val (.int p3), .val (.int p4), .val (.int p5), .val (.int bo), .val (.int bn), .val (.int be), .val (.ref b1), .val (.ref b4), .val .null, .val (.ref b65), .val (.ref b77), .val (.ref b79), .val (.ref r81), .val .null, .val (.int (1 : Int32)), .val (.int (1 : Int32)), .val (.int (1 : Int32)), .unset] [])) _
        refine XS.aload X86.here hx rfl (hb hby at_305) rfl rfl ?_
        show Steps p.tables e below (T86.setTop (mkF m 307 #[.val (.int p1), .val (.int p2), .val (.int p3), .val (.int p4), .val (.int p5), .val (.int bo), .val (.int bn), .val (.int be), .val (.ref b1), .val (.ref b4), .val .null, .val (.ref b65), .val (.ref b77), .val (.ref b79), .val (.ref r81), .val .null, .val (.int (1 : Int32)), .val (.int (1 : Int32)), .val (.int (1 : Int32)), .unset] [(.ref b79)])) _
        exact k
      -- pc 307: com/example/fieldloom/fieldloom/mapping/Value.position
      obtain ⟨cq87, kq87, q87a, q87b, q87c⟩ := isOf hZ Kq86 A79
      obtain ⟨_, _, ⟨T87, L87, k87, n87⟩, -, X87, ⟨Lc87, hQ87, l87, y87, z87⟩, st87⟩ := X86.virtualBack hx (y := (⟨"com/example/fieldloom/fieldloom/mapping/Value", "position", "()I"⟩ : MethodName)) (z := (⟨"com/example/fieldloom/fieldloom/mapping/Value", "position", "()I"⟩ : MethodName)) hown (mvT hZ (hw _ (List.mem_of_getElem? (i := 73) rfl))) (mvT hZ (hw _ (List.mem_of_getElem? (i := 74) rfl))) (notFace_of_selects (args := #[]) (mvT hZ (hw _ (List.mem_of_getElem? (i := 76) rfl)))) (mvT hZ (hw _ (List.mem_of_getElem? (i := 76) rfl))) (mvT hZ (hw _ (List.mem_of_getElem? (i := 75) rfl))) (by decide) (backOf (W := 0) (rmGp l Z a0 hw [] b79 p3 T81.heap n0 O Gq80_2) hZ (hw _ (List.mem_of_getElem? (i := 77) rfl)) (hw _ (List.mem_of_getElem? (i := 32) rfl)) (by decide) (by decide)) q87a q87c (g := (mkF m 307 #[.val (.int p1), .val (.int p2), .val (.int p3), .val (.int p4), .val (.int p5), .val (.int bo), .val (.int bn), .val (.int be), .val (.ref b1), .val (.ref b4), .val .null, .val (.ref b65), .val (.ref b77), .val (.ref b79), .val (.ref r81), .val .null, .val (.int (1 : Int32)), .val (.int (1 : Int32)), .val (.int (1 : Int32)), .unset] [(.ref b79)])) rfl (by rw [hml]; rfl) (Steps.refl _) (argsL := []) (rest := []) (lenOf pd_9 rfl) rfl (by show 2 * 0 + _ ≤ _; exact Nat.le_of_eq rfl) (hb hby at_307) (fun _ hWm => ⟨rfl, Kq86, (by decide : 7 + 0 ≤ _), (by decide : 21 + 0 ≤ _)⟩)
      dsimp only [Pt.U, Pt.locs, Pt.cells, Pt.slots] at X87 l87 y87 z87 st87 hQ87
      subst l87 y87 z87
      obtain ⟨rfl, Nq87, Kq87⟩ := hQ87
      replace N := Fr.app N Nq87
      refine own_go (B := T87.setTop (mkF m 310 #[.val (.int p1), .val (.int p2), .val (.int p3), .val (.int p4), .val (.int p5), .val (.int bo), .val (.int bn), .val (.int be), .val (.ref b1), .val (.ref b4), .val .null, .val (.ref b65), .val (.ref b77), .val (.ref b79), .val (.ref r81), .val .null, .val (.int (1 : Int32)), .val (.int (1 : Int32)), .val (.int (1 : Int32)), .unset] [(.int p3)])) (fun t k => st87.trans k) ?_
      refine own_go (B := T87.setTop (mkF m 346 #[.val (.int p1), .val (.int p2), .val (.int p3), .val (.int p4), .val (.int p5), .val (.int bo), .val (.int bn), .val (.int be), .val (.ref b1), .val (.ref b4), .val .null, .val (.ref b65), .val (.ref b77), .val (.ref b79), .val (.ref r81), .val .null, .val (.int (1 : Int32)), .val (.int (1 : Int32)), .val (.int (1 : Int32)), .val (.int (1 : Int32))] [(.int (1 : Int32))])) (fun t k => ?_) ?_
      · show Steps p.tables e below (T87.setTop (mkF m 310 #[.val (.int p1), .val (.int p2), .val (.int p3), .val (.int p4), .val (.int p5), .val (.int bo), .val (.int bn), .val (.int be), .val (.ref b1), .val (.ref b4), .val .null, .val (.ref b65), .val (.ref b77), .val (.ref b79), .val (.ref r81), .val .null, .val (.int (1 : Int32)), .val (.int (1 : Int32)), .val (.int (1 : Int32)), .unset] [(.int p3)])) _
        refine XS.iloadN X87.here hx rfl (hb hby at_310) rfl ?_
        show Steps p.tables e below (T87.setTop (mkF m 311 #[.val (.int p1), .val (.int p2), .val (.int p3), .val (.int p4), .val (.int p5), .val (.int bo), .val (.int bn), .val (.int be), .val (.ref b1), .val (.ref b4), .val .null, .val (.ref b65), .val (.ref b77), .val (.ref b79), .val (.ref r81), .val .null, .val (.int (1 : Int32)), .val (.int (1 : Int32)), .val (.int (1 : Int32)), .unset] [(.int p3), (.int p3)])) _
        refine XS.icmpNo X87.here hx rfl (hb hby at_311) rfl (teq rfl).2 ?_
        show Steps p.tables e below (T87.setTop (mkF m 314 #[.val (.int p1), .val (.int p2), .val (.int p3), .val (.int p4), .val (.int p5), .val (.int bo), .val (.int bn), .val (.int be), .val (.ref b1), .val (.ref b4), .val .null, .val (.ref b65), .val (.ref b77), .val (.ref b79), .val (.ref r81), .val .null, .val (.int (1 : Int32)), .val (.int (1 : Int32)), .val (.int (1 : Int32)), .unset] [])) _
        refine XS.iconst X87.here hx rfl (hb hby at_314) ?_
        show Steps p.tables e below (T87.setTop (mkF m 315 #[.val (.int p1), .val (.int p2), .val (.int p3), .val (.int p4), .val (.int p5), .val (.int bo), .val (.int bn), .val (.int be), .val (.ref b1), .val (.ref b4), .val .null, .val (.ref b65), .val (.ref b77), .val (.ref b79), .val (.ref r81), .val .null, .val (.int (1 : Int32)), .val (.int (1 : Int32)), .val (.int (1 : Int32)), .unset] [(.int (1 : Int32))])) _
        refine XS.goto X87.here hx rfl (pc0 := 315) (pc' := 319) rfl (hb hby at_315) (by decide) (by decide) ?_
        show Steps p.tables e below (T87.setTop (mkF m 319 #[.val (.int p1), .val (.int p2), .val (.int p3), .val (.int p4), .val (.int p5), .val (.int bo), .val (.int bn), .val (.int be), .val (.ref b1), .val (.ref b4), .val .null, .val (.ref b65), .val (.ref b77), .val (.ref b79), .val (.ref r81), .val .null, .val (.int (1 : Int32)), .val (.int (1 : Int32)), .val (.int (1 : Int32)), .unset] [(.int (1 : Int32))])) _
        refine XS.istore X87.here hx rfl (hb hby at_319) rfl (l' := #[.val (.int p1), .val (.int p2), .val (.int p3), .val (.int p4), .val (.int p5), .val (.int bo), .val (.int bn), .val (.int be), .val (.ref b1), .val (.ref b4), .val .null, .val (.ref b65), .val (.ref b77), .val (.ref b79), .val (.ref r81), .val .null, .val (.int (1 : Int32)), .val (.int (1 : Int32)), .val (.int (1 : Int32)), .val (.int (1 : Int32))]) rfl ?_
        show Steps p.tables e below (T87.setTop (mkF m 321 #[.val (.int p1), .val (.int p2), .val (.int p3), .val (.int p4), .val (.int p5), .val (.int bo), .val (.int bn), .val (.int be), .val (.ref b1), .val (.ref b4), .val .null, .val (.ref b65), .val (.ref b77), .val (.ref b79), .val (.ref r81), .val .null, .val (.int (1 : Int32)), .val (.int (1 : Int32)), .val (.int (1 : Int32)), .val (.int (1 : Int32))] [])) _
        refine XS.iload X87.here hx rfl (hb hby at_321) rfl ?_
        show Steps p.tables e below (T87.setTop (mkF m 323 #[.val (.int p1), .val (.int p2), .val (.int p3), .val (.int p4), .val (.int p5), .val (.int bo), .val (.int bn), .val (.int be), .val (.ref b1), .val (.ref b4), .val .null, .val (.ref b65), .val (.ref b77), .val (.ref b79), .val (.ref r81), .val .null, .val (.int (1 : Int32)), .val (.int (1 : Int32)), .val (.int (1 : Int32)), .val (.int (1 : Int32))] [(.int (1 : Int32))])) _
        refine XS.ifNo X87.here hx rfl (hb hby at_323) rfl ((if0 _ _).trans (feq (by decide)).1) ?_
        show Steps p.tables e below (T87.setTop (mkF m 326 #[.val (.int p1), .val (.int p2), .val (.int p3), .val (.int p4), .val (.int p5), .val (.int bo), .val (.int bn), .val (.int be), .val (.ref b1), .val (.ref b4), .val .null, .val (.ref b65), .val (.ref b77), .val (.ref b79), .val (.ref r81), .val .null, .val (.int (1 : Int32)), .val (.int (1 : Int32)), .val (.int (1 : Int32)), .val (.int (1 : Int32))] [])) _
        refine XS.iload X87.here hx rfl (hb hby at_326) rfl ?_
        show Steps p.tables e below (T87.setTop (mkF m 328 #[.val (.int p1), .val (.int p2), .val (.int p3), .val (.int p4), .val (.int p5), .val (.int bo), .val (.int bn), .val (.int be), .val (.ref b1), .val (.ref b4), .val .null, .val (.ref b65), .val (.ref b77), .val (.ref b79), .val (.ref r81), .val .null, .val (.int (1 : Int32)), .val (.int (1 : Int32)), .val (.int (1 : Int32)), .val (.int (1 : Int32))] [(.int (1 : Int32))])) _
        refine XS.ifNo X87.here hx rfl (hb hby at_328) rfl ((if0 _ _).trans (feq (by decide)).1) ?_
        show Steps p.tables e below (T87.setTop (mkF m 331 #[.val (.int p1), .val (.int p2), .val (.int p3), .val (.int p4), .val (.int p5), .val (.int bo), .val (.int bn), .val (.int be), .val (.ref b1), .val (.ref b4), .val .null, .val (.ref b65), .val (.ref b77), .val (.ref b79), .val (.ref r81), .val .null, .val (.int (1 : Int32)), .val (.int (1 : Int32)), .val (.int (1 : Int32)), .val (.int (1 : Int32))] [])) _
        refine XS.iload X87.here hx rfl (hb hby at_331) rfl ?_
        show Steps p.tables e below (T87.setTop (mkF m 333 #[.val (.int p1), .val (.int p2), .val (.int p3), .val (.int p4), .val (.int p5), .val (.int bo), .val (.int bn), .val (.int be), .val (.ref b1), .val (.ref b4), .val .null, .val (.ref b65), .val (.ref b77), .val (.ref b79), .val (.ref r81), .val .null, .val (.int (1 : Int32)), .val (.int (1 : Int32)), .val (.int (1 : Int32)), .val (.int (1 : Int32))] [(.int (1 : Int32))])) _
        refine XS.ifNo X87.here hx rfl (hb hby at_333) rfl ((if0 _ _).trans (feq (by decide)).1) ?_
        show Steps p.tables e below (T87.setTop (mkF m 336 #[.val (.int p1), .val (.int p2), .val (.int p3), .val (.int p4), .val (.int p5), .val (.int bo), .val (.int bn), .val (.int be), .val (.ref b1), .val (.ref b4), .val .null, .val (.ref b65), .val (.ref b77), .val (.ref b79), .val (.ref r81), .val .null, .val (.int (1 : Int32)), .val (.int (1 : Int32)), .val (.int (1 : Int32)), .val (.int (1 : Int32))] [])) _
        refine XS.iload X87.here hx rfl (hb hby at_336) rfl ?_
        show Steps p.tables e below (T87.setTop (mkF m 338 #[.val (.int p1), .val (.int p2), .val (.int p3), .val (.int p4), .val (.int p5), .val (.int bo), .val (.int bn), .val (.int be), .val (.ref b1), .val (.ref b4), .val .null, .val (.ref b65), .val (.ref b77), .val (.ref b79), .val (.ref r81), .val .null, .val (.int (1 : Int32)), .val (.int (1 : Int32)), .val (.int (1 : Int32)), .val (.int (1 : Int32))] [(.int (1 : Int32))])) _
        refine XS.ifNo X87.here hx rfl (hb hby at_338) rfl ((if0 _ _).trans (feq (by decide)).1) ?_
        show Steps p.tables e below (T87.setTop (mkF m 341 #[.val (.int p1), .val (.int p2), .val (.int p3), .val (.int p4), .val (.int p5), .val (.int bo), .val (.int bn), .val (.int be), .val (.ref b1), .val (.ref b4), .val .null, .val (.ref b65), .val (.ref b77), .val (.ref b79), .val (.ref r81), .val .null, .val (.int (1 : Int32)), .val (.int (1 : Int32)), .val (.int (1 : Int32)), .val (.int (1 : Int32))] [])) _
        refine XS.iconst X87.here hx rfl (hb hby at_341) ?_
        show Steps p.tables e below (T87.setTop (mkF m 342 #[.val (.int p1), .val (.int p2), .val (.int p3), .val (.int p4), .val (.int p5), .val (.int bo), .val (.int bn), .val (.int be), .val (.ref b1), .val (.ref b4), .val .null, .val (.ref b65), .val (.ref b77), .val (.ref b79), .val (.ref r81), .val .null, .val (.int (1 : Int32)), .val (.int (1 : Int32)), .val (.int (1 : Int32)), .val (.int (1 : Int32))] [(.int (1 : Int32))])) _
        refine XS.goto X87.here hx rfl (pc0 := 342) (pc' := 346) rfl (hb hby at_342) (by decide) (by decide) ?_
        show Steps p.tables e below (T87.setTop (mkF m 346 #[.val (.int p1), .val (.int p2), .val (.int p3), .val (.int p4), .val (.int p5), .val (.int bo), .val (.int bn), .val (.int be), .val (.ref b1), .val (.ref b4), .val .null, .val (.ref b65), .val (.ref b77), .val (.ref b79), .val (.ref r81), .val .null, .val (.int (1 : Int32)), .val (.int (1 : Int32)), .val (.int (1 : Int32)), .val (.int (1 : Int32))] [(.int (1 : Int32))])) _
        exact k
      obtain ⟨fs, hr, hrun, hended, hEnd⟩ := X87.leaveW hS (by rw [Kq87]; exact hk) (v := some (.int (1 : Int32))) (fun h => by rw [Bd.returns] at h; cases h)
      refine ⟨_, _, retN X87 hx (t := .boolean) Bd.returns (by simp) (hb hby at_346) hr, hfin _ _ ⟨hrun, hended, _, _, rfl, ?_, hEnd.1, hEnd.2.1, hEnd.2.2.1, hEnd.2.2.2.mono (by decide) (by decide)⟩⟩
      show Q0 Z p1 p2 p3 p4 p5 zc h0 n0 _ T87.heap _
      rw [Kq87]
      exact ⟨rfl, N⟩
set_option maxRecDepth 65536 in
set_option maxHeartbeats 40000000 in
theorem comes_1 {Post : Tables → Env → Array Value → State → Outcome → State → Prop} (hpost : ∀ tb e args s v u, (limb_1_1.after args s (.returned v) u = true ∧ limb_1_2.after args s (.returned v) u = true ∧ True) → ReturnedEndW s (.returned v) u (Jvm.fieldLocs frame_1_writes args s ++ Jvm.arrayLocs frame_1_arrays args s ++ Jvm.staticLocs frame_1_statics s) 32 1152 → Post tb e args s (.returned v) u) :
    ArmFor flags0 classFile x code maxLocals ret World_1 tables_1 room_1 Calls_1 rest_1 Pre_1 Post := by
  intro l hfl _ _ p e ha hc hk s m args below hf hA hF happ hP
  obtain ⟨hcalls, hrest, hpre⟩ := hP
  obtain ⟨-, -, -, hnamed, -, -, -, hat⟩ := (Spec.applies_iff hf).mp happ
  obtain ⟨hg, hn⟩ := and_e (Cond.before_iff.mp (show (Jvm.Cond.and given_1 narrow_1).before args s = true from hpre))
  obtain ⟨gc, gr0⟩ := and_e hg
  obtain ⟨gi0, gr1⟩ := and_e gr0
  obtain ⟨gi1, gr2⟩ := and_e gr1
  obtain ⟨gi2, gr3⟩ := and_e gr2
  obtain ⟨gi3, gr4⟩ := and_e gr3
  have gi4 := gr4
  obtain ⟨w0, w1, w2, w3, w4, rfl⟩ : ∃ w0 w1 w2 w3 w4 : Value, args = #[w0, w1, w2, w3, w4] := by
    have hs : args.size = 5 := by simpa [Cond.value, given_1] using gc
    obtain ⟨L⟩ := args
    match L, hs with
    | [w0, w1, w2, w3, w4], _ => exact ⟨w0, w1, w2, w3, w4, rfl⟩
  have hw := fun d (hd : d ∈ tables_1) => atoms_spec (ws := Jvm.Cond.code x code maxLocals ret :: tables_1) hat d (List.mem_cons_of_mem _ hd)
  have hfit : Fit s := fun {y c} hc i hi => by
    obtain ⟨ha, rfl⟩ := Array.getElem?_eq_some_iff.mp hc
    have q := List.all_eq_true.mp ((Array.all_eq_true_iff_forall_mem.mp hF) _ (Array.getElem_mem ha)) i (List.mem_range.mpr hi)
    simpa [Array.getElem?_eq_getElem hi] using q
  obtain ⟨i0, ei0⟩ := is_v gi0
  obtain rfl : w0 = (.int i0) := Option.some.inj ei0
  obtain ⟨i1, ei1⟩ := is_v gi1
  obtain rfl : w1 = (.int i1) := Option.some.inj ei1
  obtain ⟨i2, ei2⟩ := is_v gi2
  obtain rfl : w2 = (.int i2) := Option.some.inj ei2
  obtain ⟨i3, ei3⟩ := is_v gi3
  obtain rfl : w3 = (.int i3) := Option.some.inj ei3
  obtain ⟨i4, ei4⟩ := is_v gi4
  obtain rfl : w4 = (.int i4) := Option.some.inj ei4
  obtain ⟨hsets, hown0⟩ := atoms_of _ (rest_1_c_eq ▸ (show rest_1_c.before _ s = true from hrest))
  obtain ⟨zc, ezc⟩ := is_v (Cond.before_iff.mp (hsets _ (List.mem_of_getElem? (i := 1) rfl)))
  have S_C := Sta.start ezc (Or.inl (hsets _ (List.mem_of_getElem? (i := 0) rfl)))
  have hcs : ¬ zc = (0 : Int32) := by
    have q := not_v (Cond.before_iff.mp (hsets _ (List.mem_of_getElem? (i := 2) rfl)))
    have r := gotF (Jvm.Cond.eq_ints ezc (Term.int_eval 0)) q
    exact r
  have hcH : Jvm.Lit.constHeld s "java/lang/String" 7 := hcalls.1 ("java/lang/String", 7) (by decide)
  have hcw : Jvm.Lit.compactW.before _ s = true := (hsets _ (List.mem_of_getElem? (i := 2) rfl))
  obtain ⟨n, o, h1, h2, h3, _, L, rfl, ⟨rfl, N⟩, hq⟩ := rm0 l s _ hw tables_1 i0 i1 i2 i3 i4 zc s.heap s.heap.size (Old.start s) S_C hcs hcH hcw p e ha hc hk s m _ below hf ((Spec.applies_iff_loose hf).mp happ).1 ⟨rfl, State.Warmed39.refl s, rfl, Or.inl IB.start⟩ trivial
  refine ⟨n, _, h1, h2, h3, hpost _ _ _ _ _ _ ⟨Cond.after_iff.mpr rfl, Cond.after_iff.mpr (eq_i res_at (Term.int_eval (1)) rfl), trivial⟩ ⟨hq.1, hq.2.1, hq.2.2.1, (hq.2.2.2.sift fun y hy => Or.inr (N y hy)).mono (by decide) (by decide)⟩⟩
theorem main_1_1 : Claimed_1_1 := comes_1 fun _ _ _ _ _ _ h hF => ⟨h.1, hF⟩
theorem main_1_2 : Claimed_1_2 := comes_1 fun _ _ _ _ _ _ h hF => ⟨h.2.1, hF⟩
end Jvm.Pilot.@@N@@
namespace Jvm.Pilot.@@N@@
open Jvm Jvm.ClassFile Sem Op Lib Jvm.Free Jvm.Stand Jvm.Pilot.@@N@@.Jvm.D
/-! MADE BY PROGRAM (witnessworld.py) out of the Statement's table words and the real class files: 22 classes; the members and pool entries that the words name. The judged class is class 1, her method 1. -/
namespace start1
open Jvm.ClassFile
def u (s : String) : CpInfo := .utf8 (stringToUtf16 s)
/-- a pool by its gaps: so many unusable entries, then the entry; so many at the end -/
def gap : Nat → List CpInfo → List CpInfo
  | 0, r => r
  | n + 1, r => .unusable :: gap n r
def poolList (es : List (Nat × CpInfo)) (last : Nat) : List CpInfo := es.foldr (fun e r => gap e.1 (e.2 :: r)) (gap last [])
def pool (es : List (Nat × CpInfo)) (last : Nat) : Array CpInfo := ⟨poolList es last⟩
def fileOf (pool : Array CpInfo) (this : Nat) (attrs : Array Attribute := #[]) (ms : Array MethodInfo := #[]) (fl : Nat := 33) (sup : Nat := 0) (ifs : Array Nat := #[]) (fds : Array FieldInfo := #[]) : ClassFile where
  minorVersion := 0
  majorVersion := 65
  constantPool := pool
  accessFlags := fl
  thisClass := this
  superClass := sup
  interfaces := ifs
  fields := fds
  methods := ms
  attributes := attrs
def plain (name : String) (sup : Option ClassId) : Class where
  name := name
  kind := .ordinary
  loader := none
  accessFlags := 33
  super := sup
  interfaces := #[]
  cf := none
  fields := #[]
  methods := #[]
  instanceTypes := #[]
  staticTypes := #[]
  resolved := #[]
  callSites := []
  init := .initialized
  statics := none
  mirror := none

def pool0 : Array CpInfo := pool [(5, u "<init>"), (0, u "()V"), (1, .class_ 10), (1, u "java/lang/Object")] 113

def k0c0 : Code := { maxStack := 0, maxLocals := 1, code := object_method_1_code, exceptionTable := #[], attributes := #[] }
def k0m0 : Method := { name := "<init>", desc := "()V", sig := { parameters := [], returnType := none }, accessFlags := 1, code := some k0c0 }
/-- java/lang/Object -/
def k0 : Class := { plain "java/lang/Object" none with
  accessFlags := 33
  interfaces := #[]
  cf := some (fileOf pool0 8 #[] #[{ accessFlags := 1, nameIndex := 5, descriptorIndex := 6, attributes := #[] }] 33 0 #[] #[])
  fields := #[]
  methods := #[k0m0]
  instanceTypes := #[]
  staticTypes := #[]
  resolved := Array.replicate 124 none
  statics := none }

def pool1 : Array CpInfo := pool [(2, .class_ 4), (1, u "java/lang/Object"), (0, u "<init>"), (0, u "()V"), (0, .class_ 8), (0, u "java/lang/String"), (0, .methodref 7 10), (0, .nameAndType 5 11), (0, u "([C)V"), (0, .class_ 13), (0, u "com/example/fieldloom/fieldloom/mapping/FieldOccurrence"), (0, .methodref 12 15), (0, .nameAndType 5 16), (0, u "(Ljava/lang/String;ILcom/example/fieldloom/fieldloom/model/DataField;)V"), (0, .class_ 18), (0, u "com/example/fieldloom/fieldloom/mapping/Value"), (0, .methodref 17 20), (0, .nameAndType 5 21), (0, u "(Ljava/lang/String;Lcom/example/fieldloom/fieldloom/mapping/FieldOccurrence;I)V"), (0, .methodref 17 23), (0, .nameAndType 24 25), (0, u "withText"), (0, u "(Ljava/lang/String;)Lcom/example/fieldloom/fieldloom/mapping/Value;"), (0, .methodref 17 27), (0, .nameAndType 28 29), (0, u "text"), (0, u "()Ljava/lang/String;"), (0, .methodref 7 31), (0, .nameAndType 32 33), (0, u "equals"), (0, u "(Ljava/lang/Object;)Z"), (0, .methodref 17 35), (0, .nameAndType 36 37), (0, u "occurrence"), (0, u "()Lcom/example/fieldloom/fieldloom/mapping/FieldOccurrence;"), (0, .methodref 17 39), (0, .nameAndType 40 41), (0, u "position"), (0, u "()I"), (0, .class_ 43), (0, u "com/example/fieldloom/fieldloom/mapping/ValueWithTextPinLaw"), (2, u "law"), (0, u "(IIIII)Z")] 5

def k1m0 : Method := { name := "<init>", desc := "()V", sig := { parameters := [], returnType := none }, accessFlags := 1, code := none }
def k1c1 : Code := { maxStack := 5, maxLocals := 20, code := code, exceptionTable := #[], attributes := #[] }
def k1m1 : Method := { name := "law", desc := "(IIIII)Z", sig := { parameters := [.int, .int, .int, .int, .int], returnType := some .boolean }, accessFlags := 9, code := some k1c1 }
/-- com/example/fieldloom/fieldloom/mapping/ValueWithTextPinLaw -/
def k1 : Class := { plain "com/example/fieldloom/fieldloom/mapping/ValueWithTextPinLaw" (some 0) with
  accessFlags := 49
  interfaces := #[]
  cf := some (fileOf pool1 42 #[] #[{ accessFlags := 1, nameIndex := 5, descriptorIndex := 6, attributes := #[] }, { accessFlags := 9, nameIndex := 46, descriptorIndex := 47, attributes := #[] }] 49 2 #[] #[])
  fields := #[]
  methods := #[k1m0, k1m1]
  instanceTypes := #[]
  staticTypes := #[]
  resolved := Array.replicate 53 none
  statics := none }

def pool2 : Array CpInfo := pool [(1, .class_ 2), (0, u "java/io/Serializable"), (0, .class_ 4), (0, u "java/lang/Object")] 2

/-- java/io/Serializable -/
def k2 : Class := { plain "java/io/Serializable" (some 0) with
  accessFlags := 1537
  interfaces := #[]
  cf := some (fileOf pool2 1 #[] #[] 1537 3 #[] #[])
  fields := #[]
  methods := #[]
  instanceTypes := #[]
  staticTypes := #[]
  resolved := Array.replicate 7 none
  statics := none }

def pool3 : Array CpInfo := pool [(1, .class_ 2), (0, u "java/lang/Comparable"), (0, .class_ 4), (0, u "java/lang/Object")] 7

/-- java/lang/Comparable -/
def k3 : Class := { plain "java/lang/Comparable" (some 0) with
  accessFlags := 1537
  interfaces := #[]
  cf := some (fileOf pool3 1 #[] #[] 1537 3 #[] #[])
  fields := #[]
  methods := #[]
  instanceTypes := #[]
  staticTypes := #[]
  resolved := Array.replicate 12 none
  statics := none }

def pool4 : Array CpInfo := pool [(2, .class_ 4), (1, u "java/lang/CharSequence"), (42, .class_ 48), (0, u "java/lang/CharSequence$1CodePointIterator"), (10, .class_ 60), (0, u "java/lang/CharSequence$1CharIterator"), (5, .class_ 67), (0, u "java/lang/Object")] 63

/-- java/lang/CharSequence -/
def k4 : Class := { plain "java/lang/CharSequence" (some 0) with
  accessFlags := 1537
  interfaces := #[]
  cf := some (fileOf pool4 2 #[.nestMembers #[47, 59]] #[] 1537 66 #[] #[])
  fields := #[]
  methods := #[]
  instanceTypes := #[]
  staticTypes := #[]
  resolved := Array.replicate 131 none
  statics := none }

def pool5 : Array CpInfo := pool [(1, .class_ 2), (0, u "java/lang/constant/Constable"), (0, .class_ 4), (0, u "java/lang/Object")] 6

/-- java/lang/constant/Constable -/
def k5 : Class := { plain "java/lang/constant/Constable" (some 0) with
  accessFlags := 1537
  interfaces := #[]
  cf := some (fileOf pool5 1 #[] #[] 1537 3 #[] #[])
  fields := #[]
  methods := #[]
  instanceTypes := #[]
  staticTypes := #[]
  resolved := Array.replicate 11 none
  statics := none }

def pool6 : Array CpInfo := pool [(1, .class_ 2), (0, u "java/lang/constant/ConstantDesc"), (0, .class_ 4), (0, u "java/lang/Object")] 32

/-- java/lang/constant/ConstantDesc -/
def k6 : Class := { plain "java/lang/constant/ConstantDesc" (some 0) with
  accessFlags := 1537
  interfaces := #[]
  cf := some (fileOf pool6 1 #[] #[] 1537 3 #[] #[])
  fields := #[]
  methods := #[]
  instanceTypes := #[]
  staticTypes := #[]
  resolved := Array.replicate 37 none
  statics := none }

def pool7 : Array CpInfo := pool [(1, .methodref 2 3), (0, .class_ 4), (0, .nameAndType 5 6), (0, u "java/lang/Object"), (0, u "<init>"), (0, u "()V"), (0, .string 8), (0, u ""), (0, .fieldref 10 11), (0, .class_ 12), (0, .nameAndType 13 14), (0, u "java/lang/String"), (0, u "value"), (0, u "[B"), (0, .fieldref 10 16), (0, .nameAndType 17 18), (0, u "coder"), (0, u "B"), (2, u "hash"), (0, u "I"), (2, u "hashIsZero"), (0, u "Z"), (0, .methodref 10 28), (0, .nameAndType 5 29), (0, u "([CIILjava/lang/Void;)V"), (8, .fieldref 10 39), (0, .nameAndType 40 26), (0, u "COMPACT_STRINGS"), (1, .class_ 44), (1, u "java/lang/StringUTF16"), (0, u "compress"), (1, .methodref 42 48), (0, .nameAndType 49 50), (0, u "coderFromArrayLen"), (0, u "([BI)B"), (126, .methodref 42 178), (0, .nameAndType 45 179), (0, u "([CII)[B"), (363, u "equals"), (29, u "(Ljava/lang/Object;)Z"), (1, .class_ 576), (0, u "java/lang/CharSequence"), (22, u "CASE_INSENSITIVE_ORDER"), (0, u "Ljava/util/Comparator;"), (409, u "([C)V"), (90, u "serialPersistentFields"), (0, u "[Ljava/io/ObjectStreamField;"), (0, .class_ 1104), (0, u "java/lang/String$CaseInsensitiveComparator"), (1, .class_ 1107), (0, u "java/io/Serializable"), (0, .class_ 1109), (0, u "java/lang/Comparable"), (0, .class_ 1111), (0, u "java/lang/constant/Constable"), (0, .class_ 1113), (0, u "java/lang/constant/ConstantDesc"), (2, u "serialVersionUID"), (0, u "J"), (3, u "REPL"), (0, u "C"), (2, u "LATIN1"), (1, u "UTF16")] 323

def k7m0 : Method := { name := "<init>", desc := "()V", sig := { parameters := [], returnType := none }, accessFlags := 1, code := none }
def k7c1 : Code := { maxStack := 5, maxLocals := 2, code := jdk_42_method_3_code, exceptionTable := #[], attributes := #[] }
def k7m1 : Method := { name := "<init>", desc := "([C)V", sig := { parameters := [(.array .char)], returnType := none }, accessFlags := 1, code := some k7c1 }
def k7c2 : Code := { maxStack := 2, maxLocals := 3, code := jdk_42_method_66_code, exceptionTable := #[], attributes := #[] }
def k7m2 : Method := { name := "equals", desc := "(Ljava/lang/Object;)Z", sig := { parameters := [(.object "java/lang/Object")], returnType := some .boolean }, accessFlags := 1, code := some k7c2 }
def k7c3 : Code := { maxStack := 4, maxLocals := 6, code := jdk_42_method_149_code, exceptionTable := #[], attributes := #[] }
def k7m3 : Method := { name := "<init>", desc := "([CIILjava/lang/Void;)V", sig := { parameters := [(.array .char), .int, .int, (.object "java/lang/Void")], returnType := none }, accessFlags := 2, code := some k7c3 }
/-- java/lang/String -/
def k7 : Class := { plain "java/lang/String" (some 0) with
  accessFlags := 49
  interfaces := #[2, 3, 4, 5, 6]
  cf := some (fileOf pool7 10 #[.nestMembers #[1103]] #[{ accessFlags := 1, nameIndex := 5, descriptorIndex := 6, attributes := #[] }, { accessFlags := 1, nameIndex := 5, descriptorIndex := 1010, attributes := #[] }, { accessFlags := 1, nameIndex := 543, descriptorIndex := 573, attributes := #[] }, { accessFlags := 2, nameIndex := 5, descriptorIndex := 29, attributes := #[] }] 49 2 #[1106, 1108, 575, 1110, 1112] #[{ accessFlags := 18, nameIndex := 13, descriptorIndex := 14, attributes := #[] }, { accessFlags := 18, nameIndex := 17, descriptorIndex := 18, attributes := #[] }, { accessFlags := 2, nameIndex := 21, descriptorIndex := 22, attributes := #[] }, { accessFlags := 2, nameIndex := 25, descriptorIndex := 26, attributes := #[] }, { accessFlags := 26, nameIndex := 1116, descriptorIndex := 1117, attributes := #[] }, { accessFlags := 24, nameIndex := 40, descriptorIndex := 26, attributes := #[] }, { accessFlags := 26, nameIndex := 1101, descriptorIndex := 1102, attributes := #[] }, { accessFlags := 26, nameIndex := 1121, descriptorIndex := 1122, attributes := #[] }, { accessFlags := 25, nameIndex := 599, descriptorIndex := 600, attributes := #[] }, { accessFlags := 24, nameIndex := 1125, descriptorIndex := 18, attributes := #[] }, { accessFlags := 24, nameIndex := 1127, descriptorIndex := 18, attributes := #[] }])
  fields := #[{ name := "value", type := (.array .byte), accessFlags := 18, slot := 0, constantValue := 0 }, { name := "coder", type := .byte, accessFlags := 18, slot := 1, constantValue := 0 }, { name := "hash", type := .int, accessFlags := 2, slot := 2, constantValue := 0 }, { name := "hashIsZero", type := .boolean, accessFlags := 2, slot := 3, constantValue := 0 }, { name := "serialVersionUID", type := .long, accessFlags := 26, slot := 0, constantValue := 0 }, { name := "COMPACT_STRINGS", type := .boolean, accessFlags := 24, slot := 1, constantValue := 0 }, { name := "serialPersistentFields", type := (.array (.object "java/io/ObjectStreamField")), accessFlags := 26, slot := 2, constantValue := 0 }, { name := "REPL", type := .char, accessFlags := 26, slot := 3, constantValue := 0 }, { name := "CASE_INSENSITIVE_ORDER", type := (.object "java/util/Comparator"), accessFlags := 25, slot := 4, constantValue := 0 }, { name := "LATIN1", type := .byte, accessFlags := 24, slot := 5, constantValue := 0 }, { name := "UTF16", type := .byte, accessFlags := 24, slot := 6, constantValue := 0 }]
  methods := #[k7m0, k7m1, k7m2, k7m3]
  instanceTypes := #[(.array .byte), .byte, .int, .boolean]
  staticTypes := #[.long, .boolean, (.array (.object "java/io/ObjectStreamField")), .char, (.object "java/util/Comparator"), .byte, .byte]
  resolved := Array.replicate 1451 none
  statics := some 0 }

def pool8 : Array CpInfo := pool [(6, .class_ 8), (1, u "java/lang/Object"), (0, u "<init>"), (0, u "()V"), (1, .class_ 14), (1, u "java/lang/StringUTF16"), (31, u "$assertionsDisabled"), (0, u "Z"), (13, u "HI_BYTE_SHIFT"), (0, u "I"), (2, u "LO_BYTE_SHIFT"), (49, .methodref 12 116), (0, .nameAndType 117 118), (0, u "compress"), (0, u "([CI[BII)I"), (3, u "([CII)[B"), (138, u "coderFromArrayLen"), (0, u "([BI)B"), (106, .class_ 371), (1, u "java/lang/StringUTF16$LinesSpliterator"), (58, u "MAX_LENGTH"), (196, .class_ 628), (0, u "java/lang/StringUTF16$CodePointsSpliterator"), (0, .class_ 630), (0, u "java/lang/StringUTF16$CharsSpliterator")] 4

def k8m0 : Method := { name := "<init>", desc := "()V", sig := { parameters := [], returnType := none }, accessFlags := 0, code := none }
def k8c1 : Code := { maxStack := 2, maxLocals := 2, code := jdk_52_method_15_code, exceptionTable := #[], attributes := #[] }
def k8m1 : Method := { name := "coderFromArrayLen", desc := "([BI)B", sig := { parameters := [(.array .byte), .int], returnType := some .byte }, accessFlags := 8, code := some k8c1 }
def k8c2 : Code := { maxStack := 5, maxLocals := 6, code := jdk_52_method_16_code, exceptionTable := #[], attributes := #[] }
def k8m2 : Method := { name := "compress", desc := "([CII)[B", sig := { parameters := [(.array .char), .int, .int], returnType := some (.array .byte) }, accessFlags := 9, code := some k8c2 }
def k8c3 : Code := { maxStack := 3, maxLocals := 7, code := jdk_52_method_21_code, exceptionTable := #[], attributes := #[] }
def k8m3 : Method := { name := "compress", desc := "([CI[BII)I", sig := { parameters := [(.array .char), .int, (.array .byte), .int, .int], returnType := some .int }, accessFlags := 9, code := some k8c3 }
/-- java/lang/StringUTF16 -/
def k8 : Class := { plain "java/lang/StringUTF16" (some 0) with
  accessFlags := 48
  interfaces := #[]
  cf := some (fileOf pool8 12 #[.nestMembers #[627, 629, 369]] #[{ accessFlags := 0, nameIndex := 9, descriptorIndex := 10, attributes := #[] }, { accessFlags := 8, nameIndex := 261, descriptorIndex := 262, attributes := #[] }, { accessFlags := 9, nameIndex := 117, descriptorIndex := 122, attributes := #[] }, { accessFlags := 9, nameIndex := 117, descriptorIndex := 118, attributes := #[] }] 48 6 #[] #[{ accessFlags := 26, nameIndex := 61, descriptorIndex := 62, attributes := #[] }, { accessFlags := 26, nameIndex := 65, descriptorIndex := 62, attributes := #[] }, { accessFlags := 24, nameIndex := 430, descriptorIndex := 62, attributes := #[] }, { accessFlags := 4120, nameIndex := 46, descriptorIndex := 47, attributes := #[] }])
  fields := #[{ name := "HI_BYTE_SHIFT", type := .int, accessFlags := 26, slot := 0, constantValue := 0 }, { name := "LO_BYTE_SHIFT", type := .int, accessFlags := 26, slot := 1, constantValue := 0 }, { name := "MAX_LENGTH", type := .int, accessFlags := 24, slot := 2, constantValue := 0 }, { name := "$assertionsDisabled", type := .boolean, accessFlags := 4120, slot := 3, constantValue := 0 }]
  methods := #[k8m0, k8m1, k8m2, k8m3]
  instanceTypes := #[]
  staticTypes := #[.int, .int, .int, .boolean]
  resolved := Array.replicate 635 none
  statics := none }

def pool9 : Array CpInfo := pool [(1, .methodref 2 3), (0, .class_ 4), (0, .nameAndType 5 6), (0, u "java/lang/Object"), (0, u "<init>"), (0, u "()V"), (0, .class_ 8), (0, u "java/lang/Record")] 13

def k9c0 : Code := { maxStack := 1, maxLocals := 1, code := jdk_30_method_1_code, exceptionTable := #[], attributes := #[] }
def k9m0 : Method := { name := "<init>", desc := "()V", sig := { parameters := [], returnType := none }, accessFlags := 4, code := some k9c0 }
/-- java/lang/Record -/
def k9 : Class := { plain "java/lang/Record" (some 0) with
  accessFlags := 1057
  interfaces := #[]
  cf := some (fileOf pool9 7 #[] #[{ accessFlags := 4, nameIndex := 5, descriptorIndex := 6, attributes := #[] }] 1057 2 #[] #[])
  fields := #[]
  methods := #[k9m0]
  instanceTypes := #[]
  staticTypes := #[]
  resolved := Array.replicate 22 none
  statics := none }

def pool10 : Array CpInfo := pool [(1, .methodref 2 3), (0, .class_ 4), (0, .nameAndType 5 6), (0, u "java/lang/Record"), (0, u "<init>"), (0, u "()V"), (0, .fieldref 8 9), (0, .class_ 10), (0, .nameAndType 11 12), (0, u "com/example/fieldloom/fieldloom/mapping/Value"), (0, u "text"), (0, u "Ljava/lang/String;"), (0, .fieldref 8 14), (0, .nameAndType 15 16), (0, u "occurrence"), (0, u "Lcom/example/fieldloom/fieldloom/mapping/FieldOccurrence;"), (0, .fieldref 8 18), (0, .nameAndType 19 20), (0, u "position"), (0, u "I"), (0, .methodref 8 22), (0, .nameAndType 5 23), (0, u "(Ljava/lang/String;Lcom/example/fieldloom/fieldloom/mapping/FieldOccurrence;I)V"), (0, .methodref 8 25), (0, .nameAndType 5 26), (0, u "(Ljava/lang/String;Lcom/example/fieldloom/fieldloom/mapping/FieldOccurrence;)V"), (22, u "(Ljava/lang/String;)Lcom/example/fieldloom/fieldloom/mapping/Value;"), (3, u "withText"), (0, u "()Ljava/lang/String;"), (0, u "()I"), (1, u "()Lcom/example/fieldloom/fieldloom/mapping/FieldOccurrence;")] 22

def k10c0 : Code := { maxStack := 4, maxLocals := 3, code := prog_72_method_1_code, exceptionTable := #[], attributes := #[] }
def k10m0 : Method := { name := "<init>", desc := "(Ljava/lang/String;Lcom/example/fieldloom/fieldloom/mapping/FieldOccurrence;)V", sig := { parameters := [(.object "java/lang/String"), (.object "com/example/fieldloom/fieldloom/mapping/FieldOccurrence")], returnType := none }, accessFlags := 0, code := some k10c0 }
def k10c1 : Code := { maxStack := 2, maxLocals := 4, code := prog_72_method_2_code, exceptionTable := #[], attributes := #[] }
def k10m1 : Method := { name := "<init>", desc := "(Ljava/lang/String;Lcom/example/fieldloom/fieldloom/mapping/FieldOccurrence;I)V", sig := { parameters := [(.object "java/lang/String"), (.object "com/example/fieldloom/fieldloom/mapping/FieldOccurrence"), .int], returnType := none }, accessFlags := 0, code := some k10c1 }
def k10c2 : Code := { maxStack := 4, maxLocals := 2, code := prog_72_method_5_code, exceptionTable := #[], attributes := #[] }
def k10m2 : Method := { name := "withText", desc := "(Ljava/lang/String;)Lcom/example/fieldloom/fieldloom/mapping/Value;", sig := { parameters := [(.object "java/lang/String")], returnType := some (.object "com/example/fieldloom/fieldloom/mapping/Value") }, accessFlags := 0, code := some k10c2 }
def k10c3 : Code := { maxStack := 1, maxLocals := 1, code := prog_72_method_9_code, exceptionTable := #[], attributes := #[] }
def k10m3 : Method := { name := "text", desc := "()Ljava/lang/String;", sig := { parameters := [], returnType := some (.object "java/lang/String") }, accessFlags := 1, code := some k10c3 }
def k10c4 : Code := { maxStack := 1, maxLocals := 1, code := prog_72_method_10_code, exceptionTable := #[], attributes := #[] }
def k10m4 : Method := { name := "occurrence", desc := "()Lcom/example/fieldloom/fieldloom/mapping/FieldOccurrence;", sig := { parameters := [], returnType := some (.object "com/example/fieldloom/fieldloom/mapping/FieldOccurrence") }, accessFlags := 1, code := some k10c4 }
def k10c5 : Code := { maxStack := 1, maxLocals := 1, code := prog_72_method_11_code, exceptionTable := #[], attributes := #[] }
def k10m5 : Method := { name := "position", desc := "()I", sig := { parameters := [], returnType := some .int }, accessFlags := 1, code := some k10c5 }
/-- com/example/fieldloom/fieldloom/mapping/Value -/
def k10 : Class := { plain "com/example/fieldloom/fieldloom/mapping/Value" (some 9) with
  accessFlags := 48
  interfaces := #[]
  cf := some (fileOf pool10 8 #[] #[{ accessFlags := 0, nameIndex := 5, descriptorIndex := 26, attributes := #[] }, { accessFlags := 0, nameIndex := 5, descriptorIndex := 23, attributes := #[] }, { accessFlags := 0, nameIndex := 53, descriptorIndex := 49, attributes := #[] }, { accessFlags := 1, nameIndex := 11, descriptorIndex := 54, attributes := #[] }, { accessFlags := 1, nameIndex := 15, descriptorIndex := 57, attributes := #[] }, { accessFlags := 1, nameIndex := 19, descriptorIndex := 55, attributes := #[] }] 48 2 #[] #[{ accessFlags := 18, nameIndex := 11, descriptorIndex := 12, attributes := #[] }, { accessFlags := 18, nameIndex := 15, descriptorIndex := 16, attributes := #[] }, { accessFlags := 18, nameIndex := 19, descriptorIndex := 20, attributes := #[] }])
  fields := #[{ name := "text", type := (.object "java/lang/String"), accessFlags := 18, slot := 0, constantValue := 0 }, { name := "occurrence", type := (.object "com/example/fieldloom/fieldloom/mapping/FieldOccurrence"), accessFlags := 18, slot := 1, constantValue := 0 }, { name := "position", type := .int, accessFlags := 18, slot := 2, constantValue := 0 }]
  methods := #[k10m0, k10m1, k10m2, k10m3, k10m4, k10m5]
  instanceTypes := #[(.object "java/lang/String"), (.object "com/example/fieldloom/fieldloom/mapping/FieldOccurrence"), .int]
  staticTypes := #[]
  resolved := Array.replicate 80 none
  statics := none }

def pool11 : Array CpInfo := pool [(1, .methodref 2 3), (0, .class_ 4), (0, .nameAndType 5 6), (0, u "java/lang/Record"), (0, u "<init>"), (0, u "()V"), (0, .fieldref 8 9), (0, .class_ 10), (0, .nameAndType 11 12), (0, u "com/example/fieldloom/fieldloom/mapping/FieldOccurrence"), (0, u "tag"), (0, u "Ljava/lang/String;"), (0, .fieldref 8 14), (0, .nameAndType 15 16), (0, u "number"), (0, u "I"), (0, .fieldref 8 18), (0, .nameAndType 19 20), (0, u "field"), (0, u "Lcom/example/fieldloom/fieldloom/model/DataField;"), (12, u "(Ljava/lang/String;ILcom/example/fieldloom/fieldloom/model/DataField;)V")] 29

def k11c0 : Code := { maxStack := 2, maxLocals := 4, code := prog_44_method_1_code, exceptionTable := #[], attributes := #[] }
def k11m0 : Method := { name := "<init>", desc := "(Ljava/lang/String;ILcom/example/fieldloom/fieldloom/model/DataField;)V", sig := { parameters := [(.object "java/lang/String"), .int, (.object "com/example/fieldloom/fieldloom/model/DataField")], returnType := none }, accessFlags := 0, code := some k11c0 }
/-- com/example/fieldloom/fieldloom/mapping/FieldOccurrence -/
def k11 : Class := { plain "com/example/fieldloom/fieldloom/mapping/FieldOccurrence" (some 9) with
  accessFlags := 48
  interfaces := #[]
  cf := some (fileOf pool11 8 #[] #[{ accessFlags := 0, nameIndex := 5, descriptorIndex := 33, attributes := #[] }] 48 2 #[] #[{ accessFlags := 18, nameIndex := 11, descriptorIndex := 12, attributes := #[] }, { accessFlags := 18, nameIndex := 15, descriptorIndex := 16, attributes := #[] }, { accessFlags := 18, nameIndex := 19, descriptorIndex := 20, attributes := #[] }])
  fields := #[{ name := "tag", type := (.object "java/lang/String"), accessFlags := 18, slot := 0, constantValue := 0 }, { name := "number", type := .int, accessFlags := 18, slot := 1, constantValue := 0 }, { name := "field", type := (.object "com/example/fieldloom/fieldloom/model/DataField"), accessFlags := 18, slot := 2, constantValue := 0 }]
  methods := #[k11m0]
  instanceTypes := #[(.object "java/lang/String"), .int, (.object "com/example/fieldloom/fieldloom/model/DataField")]
  staticTypes := #[]
  resolved := Array.replicate 63 none
  statics := none }

def pool12 : Array CpInfo := pool [(4, .class_ 6), (1, u "java/lang/Object"), (0, u "<init>"), (0, u "()V"), (5, .class_ 16), (1, u "java/lang/StringLatin1"), (104, u "$assertionsDisabled"), (0, u "Z"), (98, .class_ 223), (1, u "java/lang/StringLatin1$LinesSpliterator"), (166, .class_ 391), (0, u "java/lang/StringLatin1$CharsSpliterator")] 3

def k12m0 : Method := { name := "<init>", desc := "()V", sig := { parameters := [], returnType := none }, accessFlags := 0, code := none }
/-- java/lang/StringLatin1 -/
def k12 : Class := { plain "java/lang/StringLatin1" (some 0) with
  accessFlags := 48
  interfaces := #[]
  cf := some (fileOf pool12 14 #[.nestMembers #[390, 221]] #[{ accessFlags := 0, nameIndex := 7, descriptorIndex := 8, attributes := #[] }] 48 4 #[] #[{ accessFlags := 4120, nameIndex := 121, descriptorIndex := 122, attributes := #[] }])
  fields := #[{ name := "$assertionsDisabled", type := .boolean, accessFlags := 4120, slot := 0, constantValue := 0 }]
  methods := #[k12m0]
  instanceTypes := #[]
  staticTypes := #[.boolean]
  resolved := Array.replicate 395 none
  statics := none }

def pool13 : Array CpInfo := pool [(2, .class_ 4), (1, u "java/lang/Object"), (0, u "<init>"), (0, u "()V"), (17, .class_ 26), (1, u "jdk/internal/util/Preconditions"), (28, .class_ 56), (0, u "jdk/internal/util/Preconditions$4"), (57, .class_ 115), (0, u "jdk/internal/util/Preconditions$1"), (7, u "SIOOBE_FORMATTER"), (0, u "Ljava/util/function/BiFunction;"), (0, .class_ 126), (0, u "jdk/internal/util/Preconditions$2"), (3, u "AIOOBE_FORMATTER"), (0, .class_ 132), (0, u "jdk/internal/util/Preconditions$3"), (3, u "IOOBE_FORMATTER")] 57

def k13m0 : Method := { name := "<init>", desc := "()V", sig := { parameters := [], returnType := none }, accessFlags := 1, code := none }
/-- jdk/internal/util/Preconditions -/
def k13 : Class := { plain "jdk/internal/util/Preconditions" (some 0) with
  accessFlags := 33
  interfaces := #[]
  cf := some (fileOf pool13 24 #[.nestMembers #[55, 131, 125, 114]] #[{ accessFlags := 1, nameIndex := 5, descriptorIndex := 6, attributes := #[] }] 33 2 #[] #[{ accessFlags := 25, nameIndex := 123, descriptorIndex := 124, attributes := #[] }, { accessFlags := 25, nameIndex := 130, descriptorIndex := 124, attributes := #[] }, { accessFlags := 25, nameIndex := 136, descriptorIndex := 124, attributes := #[] }])
  fields := #[{ name := "SIOOBE_FORMATTER", type := (.object "java/util/function/BiFunction"), accessFlags := 25, slot := 0, constantValue := 0 }, { name := "AIOOBE_FORMATTER", type := (.object "java/util/function/BiFunction"), accessFlags := 25, slot := 1, constantValue := 0 }, { name := "IOOBE_FORMATTER", type := (.object "java/util/function/BiFunction"), accessFlags := 25, slot := 2, constantValue := 0 }]
  methods := #[k13m0]
  instanceTypes := #[]
  staticTypes := #[(.object "java/util/function/BiFunction"), (.object "java/util/function/BiFunction"), (.object "java/util/function/BiFunction")]
  resolved := Array.replicate 194 none
  statics := some 1 }

def pool14 : Array CpInfo := pool [(9, u "<init>"), (6, .class_ 18), (1, u "java/lang/Object"), (0, u "()V"), (1, .class_ 23), (1, u "jdk/internal/util/ArraysSupport"), (0, u "LOG2_ARRAY_LONG_INDEX_SCALE"), (0, u "I"), (2, u "U"), (0, u "Ljdk/internal/misc/Unsafe;"), (8, u "BIG_ENDIAN"), (0, u "Z"), (8, u "LOG2_BYTE_BIT_SIZE"), (4, u "LOG2_ARRAY_INT_INDEX_SCALE"), (54, u "JLA"), (0, u "Ljdk/internal/access/JavaLangAccess;"), (11, u "LOG2_ARRAY_BOOLEAN_INDEX_SCALE"), (9, u "LOG2_ARRAY_BYTE_INDEX_SCALE"), (5, u "LOG2_ARRAY_CHAR_INDEX_SCALE"), (5, u "LOG2_ARRAY_SHORT_INDEX_SCALE"), (18, u "LOG2_ARRAY_FLOAT_INDEX_SCALE"), (24, u "LOG2_ARRAY_DOUBLE_INDEX_SCALE"), (89, u "T_BOOLEAN"), (2, u "T_CHAR"), (1, u "T_FLOAT"), (1, u "T_DOUBLE"), (1, u "T_BYTE"), (1, u "T_SHORT"), (1, u "T_INT"), (1, u "T_LONG"), (1, u "SOFT_MAX_ARRAY_LENGTH")] 83

def k14m0 : Method := { name := "<init>", desc := "()V", sig := { parameters := [], returnType := none }, accessFlags := 2, code := none }
/-- jdk/internal/util/ArraysSupport -/
def k14 : Class := { plain "jdk/internal/util/ArraysSupport" (some 0) with
  accessFlags := 33
  interfaces := #[]
  cf := some (fileOf pool14 21 #[] #[{ accessFlags := 2, nameIndex := 9, descriptorIndex := 19, attributes := #[] }] 33 16 #[] #[{ accessFlags := 24, nameIndex := 28, descriptorIndex := 29, attributes := #[] }, { accessFlags := 26, nameIndex := 38, descriptorIndex := 39, attributes := #[] }, { accessFlags := 25, nameIndex := 121, descriptorIndex := 25, attributes := #[] }, { accessFlags := 25, nameIndex := 131, descriptorIndex := 25, attributes := #[] }, { accessFlags := 25, nameIndex := 137, descriptorIndex := 25, attributes := #[] }, { accessFlags := 25, nameIndex := 143, descriptorIndex := 25, attributes := #[] }, { accessFlags := 25, nameIndex := 53, descriptorIndex := 25, attributes := #[] }, { accessFlags := 25, nameIndex := 24, descriptorIndex := 25, attributes := #[] }, { accessFlags := 25, nameIndex := 162, descriptorIndex := 25, attributes := #[] }, { accessFlags := 25, nameIndex := 187, descriptorIndex := 25, attributes := #[] }, { accessFlags := 26, nameIndex := 48, descriptorIndex := 25, attributes := #[] }, { accessFlags := 25, nameIndex := 277, descriptorIndex := 25, attributes := #[] }, { accessFlags := 25, nameIndex := 280, descriptorIndex := 25, attributes := #[] }, { accessFlags := 25, nameIndex := 282, descriptorIndex := 25, attributes := #[] }, { accessFlags := 25, nameIndex := 284, descriptorIndex := 25, attributes := #[] }, { accessFlags := 25, nameIndex := 286, descriptorIndex := 25, attributes := #[] }, { accessFlags := 25, nameIndex := 288, descriptorIndex := 25, attributes := #[] }, { accessFlags := 25, nameIndex := 290, descriptorIndex := 25, attributes := #[] }, { accessFlags := 25, nameIndex := 292, descriptorIndex := 25, attributes := #[] }, { accessFlags := 26, nameIndex := 108, descriptorIndex := 109, attributes := #[] }, { accessFlags := 25, nameIndex := 294, descriptorIndex := 25, attributes := #[] }])
  fields := #[{ name := "U", type := (.object "jdk/internal/misc/Unsafe"), accessFlags := 24, slot := 0, constantValue := 0 }, { name := "BIG_ENDIAN", type := .boolean, accessFlags := 26, slot := 1, constantValue := 0 }, { name := "LOG2_ARRAY_BOOLEAN_INDEX_SCALE", type := .int, accessFlags := 25, slot := 2, constantValue := 0 }, { name := "LOG2_ARRAY_BYTE_INDEX_SCALE", type := .int, accessFlags := 25, slot := 3, constantValue := 0 }, { name := "LOG2_ARRAY_CHAR_INDEX_SCALE", type := .int, accessFlags := 25, slot := 4, constantValue := 0 }, { name := "LOG2_ARRAY_SHORT_INDEX_SCALE", type := .int, accessFlags := 25, slot := 5, constantValue := 0 }, { name := "LOG2_ARRAY_INT_INDEX_SCALE", type := .int, accessFlags := 25, slot := 6, constantValue := 0 }, { name := "LOG2_ARRAY_LONG_INDEX_SCALE", type := .int, accessFlags := 25, slot := 7, constantValue := 0 }, { name := "LOG2_ARRAY_FLOAT_INDEX_SCALE", type := .int, accessFlags := 25, slot := 8, constantValue := 0 }, { name := "LOG2_ARRAY_DOUBLE_INDEX_SCALE", type := .int, accessFlags := 25, slot := 9, constantValue := 0 }, { name := "LOG2_BYTE_BIT_SIZE", type := .int, accessFlags := 26, slot := 10, constantValue := 0 }, { name := "T_BOOLEAN", type := .int, accessFlags := 25, slot := 11, constantValue := 0 }, { name := "T_CHAR", type := .int, accessFlags := 25, slot := 12, constantValue := 0 }, { name := "T_FLOAT", type := .int, accessFlags := 25, slot := 13, constantValue := 0 }, { name := "T_DOUBLE", type := .int, accessFlags := 25, slot := 14, constantValue := 0 }, { name := "T_BYTE", type := .int, accessFlags := 25, slot := 15, constantValue := 0 }, { name := "T_SHORT", type := .int, accessFlags := 25, slot := 16, constantValue := 0 }, { name := "T_INT", type := .int, accessFlags := 25, slot := 17, constantValue := 0 }, { name := "T_LONG", type := .int, accessFlags := 25, slot := 18, constantValue := 0 }, { name := "JLA", type := (.object "jdk/internal/access/JavaLangAccess"), accessFlags := 26, slot := 19, constantValue := 0 }, { name := "SOFT_MAX_ARRAY_LENGTH", type := .int, accessFlags := 25, slot := 20, constantValue := 0 }]
  methods := #[k14m0]
  instanceTypes := #[]
  staticTypes := #[(.object "jdk/internal/misc/Unsafe"), .boolean, .int, .int, .int, .int, .int, .int, .int, .int, .int, .int, .int, .int, .int, .int, .int, .int, .int, (.object "jdk/internal/access/JavaLangAccess"), .int]
  resolved := Array.replicate 378 none
  statics := none }

def pool15 : Array CpInfo := pool [(1, u "java/lang/Cloneable"), (0, .class_ 1), (0, u "java/lang/Object"), (0, .class_ 3)] 3

/-- java/lang/Cloneable -/
def k15 : Class := { plain "java/lang/Cloneable" (some 0) with
  accessFlags := 1537
  interfaces := #[]
  cf := some (fileOf pool15 2 #[] #[] 1537 4 #[] #[])
  fields := #[]
  methods := #[]
  instanceTypes := #[]
  staticTypes := #[]
  resolved := Array.replicate 8 none
  statics := none }

/-- the primitive byte -/
def k16 : Class := { plain "byte" none with kind := .primitive 'B', accessFlags := 0x411 }
/-- [B -/
def k17 : Class := { plain "[B" (some 0) with kind := .array 16 .byte, interfaces := #[15, 2], accessFlags := 1041 }

/-- the primitive char -/
def k18 : Class := { plain "char" none with kind := .primitive 'C', accessFlags := 0x411 }
/-- [C -/
def k19 : Class := { plain "[C" (some 0) with kind := .array 18 .char, interfaces := #[15, 2], accessFlags := 1041 }

/-- the primitive int -/
def k20 : Class := { plain "int" none with kind := .primitive 'I', accessFlags := 0x411 }
/-- [I -/
def k21 : Class := { plain "[I" (some 0) with kind := .array 20 .int, interfaces := #[15, 2], accessFlags := 1041 }

def heap : Heap := #[{ cls := 7, slots := #[.long 0, .int 1, .null, .int 0, .null, .int 0, .int 0], vm := .statics 7 },
  { cls := 13, slots := #[.null, .null, .null], vm := .statics 13 }]
def classes : Array Class := #[k0, k1, k2, k3, k4, k5, k6, k7, k8, k9, k10, k11, k12, k13, k14, k15, k16, k17, k18, k19, k20, k21]
def interned : List (Array UInt16 × Addr) := []
def slotsUsed : Nat := 10
def theMethod : MethodId := ⟨1, 1⟩
def args0 : Array Value := #[.int 5, .int 2, .int 1, .int 66, .int 3]
def aboutOver (below : List Frame) : State where
  vm := { classes := classes, interned := interned.toArray }
  heap := heap
  slotsUsed := slotsUsed
  threads := #[{ frames := .invoking theMethod args0 :: below }]
def below0 : List Frame := [.native { method := ⟨0, 0⟩, args := #[] }]
def about1 : State := aboutOver below0
def p0 : Program := .bare "" "" ""
def e0 : Env := launch0.env 0 0 0
theorem w_frames : about1.frames = Frame.invoking theMethod args0 :: below0 := rfl
set_option maxRecDepth 65536 in
theorem w_args : argsFit about1.vm theMethod args0 = true := by decide +kernel
set_option maxRecDepth 65536 in
theorem w_heap : heapFits about1 = true := by decide +kernel
set_option maxRecDepth 65536 in
theorem w_runnable : about1.curStatus? = some .runnable := by decide +kernel
set_option maxRecDepth 65536 in
theorem w_alone : about1.alone = true := by decide +kernel
set_option maxRecDepth 65536 in
theorem w_named : about1.methodNamed? x = some theMethod := by decide +kernel
set_option maxRecDepth 65536 in
theorem w_hears : about1.hears theMethod below0 = true := by decide +kernel
set_option maxRecDepth 65536 in
theorem w_ripe : about1.ripe theMethod args0 below0 = true := by decide +kernel
theorem w_running : about1.status = .running := rfl
set_option maxRecDepth 65536 in
theorem w_room : about1.hasRoom e0.platform room_1 = true :=
  launch0.hasRoom_least _ room_1 (by decide +kernel) (by decide +kernel) (by decide +kernel) (by decide +kernel) (by decide +kernel) (by decide +kernel)
theorem allAtoms_all (ts : List Jvm.Cond) (a : Array Jvm.Value) (st : Jvm.State) : (allAtoms ts).before a st = ts.all (fun c => c.before a st) := by
  induction ts with
  | nil => rfl
  | cons c t ih =>
    show (Jvm.Cond.and c (allAtoms t)).before a st = _
    rw [Jvm.Cond.before_and, ih, List.all_cons]
def words1 : List Jvm.Cond := Jvm.Cond.code x code maxLocals ret :: tables_1
/-- a 'code' word, met by the world's own term for the bytes: nothing is compared byte by byte -/
theorem code_word {y : MethodName} {bytes : ByteArray} {mx : Nat} {rt : Option FieldType} {a : Array Value} {s : State} {m : MethodId} {meth : Method} {c : Code} (h1 : s.methodNamed? y = some m) (h2 : s.vm.method? m = some meth) (h3 : meth.code = some c) (h4 : c.code = bytes)
    (h5 : (c.maxLocals == mx && c.exceptionTable.isEmpty && decide (c.maxStack ≤ mostOperands) && decide (meth.sig.returnType = rt) && !meth.locks && decide (parseMethodDescriptor y.desc = some meth.sig)) = true) : (Jvm.Cond.code y bytes mx rt).before a s = true := by
  simp only [Bool.and_eq_true, beq_iff_eq, Bool.not_eq_true', decide_eq_true_eq] at h5
  obtain ⟨⟨⟨⟨⟨g1, g2⟩, g3⟩, g4⟩, g5⟩, g6⟩ := h5
  simp [Cond.before, Cond.holds, Cond.value, h1, h2, h3, h4, g1, g2, g3, g4, g5, g6]
def isCode : Jvm.Cond → Bool
  | .code _ _ _ _ => true
  | _ => false
theorem all_split {L : List Jvm.Cond} {P : Jvm.Cond → Bool} (h1 : L.all (fun c => isCode c || P c) = true) (h2 : ∀ c ∈ L.filter isCode, P c = true) : L.all P = true := by
  refine List.all_eq_true.mpr fun c hc => ?_
  have h := List.all_eq_true.mp h1 c hc
  rcases Bool.eq_false_or_eq_true (isCode c) with hi | hi
  · exact h2 c (List.mem_filter.mpr ⟨hc, hi⟩)
  · simpa [hi] using h
set_option maxRecDepth 65536 in
theorem w_c0 : (Jvm.Cond.code x code maxLocals ret).before args0 about1 = true := code_word (m := ⟨1, 1⟩) (meth := k1m1) (c := k1c1) (by decide +kernel) rfl rfl rfl (by decide +kernel)
set_option maxRecDepth 65536 in
theorem w_c1 : (Jvm.Cond.code ({ cls := "java/lang/String", name := "<init>", desc := "([C)V" } : Jvm.MethodName) jdk_42_method_3_code (2 : Nat) (Option.none : Option Jvm.ClassFile.FieldType)).before args0 about1 = true := code_word (m := ⟨7, 1⟩) (meth := k7m1) (c := k7c1) (by decide +kernel) rfl rfl rfl (by decide +kernel)
set_option maxRecDepth 65536 in
theorem w_c2 : (Jvm.Cond.code ({ cls := "java/lang/String", name := "<init>", desc := "([CIILjava/lang/Void;)V" } : Jvm.MethodName) jdk_42_method_149_code (6 : Nat) (Option.none : Option Jvm.ClassFile.FieldType)).before args0 about1 = true := code_word (m := ⟨7, 3⟩) (meth := k7m3) (c := k7c3) (by decide +kernel) rfl rfl rfl (by decide +kernel)
set_option maxRecDepth 65536 in
theorem w_c3 : (Jvm.Cond.code ({ cls := "java/lang/Object", name := "<init>", desc := "()V" } : Jvm.MethodName) object_method_1_code (1 : Nat) (Option.none : Option Jvm.ClassFile.FieldType)).before args0 about1 = true := code_word (m := ⟨0, 0⟩) (meth := k0m0) (c := k0c0) (by decide +kernel) rfl rfl rfl (by decide +kernel)
set_option maxRecDepth 65536 in
theorem w_c4 : (Jvm.Cond.code ({ cls := "java/lang/StringUTF16", name := "compress", desc := "([CII)[B" } : Jvm.MethodName) jdk_52_method_16_code (6 : Nat) (Option.some (Jvm.ClassFile.FieldType.array Jvm.ClassFile.FieldType.byte))).before args0 about1 = true := code_word (m := ⟨8, 2⟩) (meth := k8m2) (c := k8c2) (by decide +kernel) rfl rfl rfl (by decide +kernel)
set_option maxRecDepth 65536 in
theorem w_c5 : (Jvm.Cond.code ({ cls := "java/lang/StringUTF16", name := "compress", desc := "([CI[BII)I" } : Jvm.MethodName) jdk_52_method_21_code (7 : Nat) (Option.some Jvm.ClassFile.FieldType.int)).before args0 about1 = true := code_word (m := ⟨8, 3⟩) (meth := k8m3) (c := k8c3) (by decide +kernel) rfl rfl rfl (by decide +kernel)
set_option maxRecDepth 65536 in
theorem w_c6 : (Jvm.Cond.code ({ cls := "java/lang/StringUTF16", name := "coderFromArrayLen", desc := "([BI)B" } : Jvm.MethodName) jdk_52_method_15_code (2 : Nat) (Option.some Jvm.ClassFile.FieldType.byte)).before args0 about1 = true := code_word (m := ⟨8, 1⟩) (meth := k8m1) (c := k8c1) (by decide +kernel) rfl rfl rfl (by decide +kernel)
set_option maxRecDepth 65536 in
theorem w_c7 : (Jvm.Cond.code ({ cls := "com/example/fieldloom/fieldloom/mapping/Value", name := "<init>", desc := "(Ljava/lang/String;Lcom/example/fieldloom/fieldloom/mapping/FieldOccurrence;I)V" } : Jvm.MethodName) prog_72_method_2_code (4 : Nat) (Option.none : Option Jvm.ClassFile.FieldType)).before args0 about1 = true := code_word (m := ⟨10, 1⟩) (meth := k10m1) (c := k10c1) (by decide +kernel) rfl rfl rfl (by decide +kernel)
set_option maxRecDepth 65536 in
theorem w_c8 : (Jvm.Cond.code ({ cls := "java/lang/Record", name := "<init>", desc := "()V" } : Jvm.MethodName) jdk_30_method_1_code (1 : Nat) (Option.none : Option Jvm.ClassFile.FieldType)).before args0 about1 = true := code_word (m := ⟨9, 0⟩) (meth := k9m0) (c := k9c0) (by decide +kernel) rfl rfl rfl (by decide +kernel)
set_option maxRecDepth 65536 in
theorem w_c9 : (Jvm.Cond.code ({ cls := "com/example/fieldloom/fieldloom/mapping/Value", name := "withText", desc := "(Ljava/lang/String;)Lcom/example/fieldloom/fieldloom/mapping/Value;" } : Jvm.MethodName) prog_72_method_5_code (2 : Nat) (Option.some (Jvm.ClassFile.FieldType.object "com/example/fieldloom/fieldloom/mapping/Value"))).before args0 about1 = true := code_word (m := ⟨10, 2⟩) (meth := k10m2) (c := k10c2) (by decide +kernel) rfl rfl rfl (by decide +kernel)
set_option maxRecDepth 65536 in
theorem w_c10 : (Jvm.Cond.code ({ cls := "com/example/fieldloom/fieldloom/mapping/Value", name := "<init>", desc := "(Ljava/lang/String;Lcom/example/fieldloom/fieldloom/mapping/FieldOccurrence;)V" } : Jvm.MethodName) prog_72_method_1_code (3 : Nat) (Option.none : Option Jvm.ClassFile.FieldType)).before args0 about1 = true := code_word (m := ⟨10, 0⟩) (meth := k10m0) (c := k10c0) (by decide +kernel) rfl rfl rfl (by decide +kernel)
set_option maxRecDepth 65536 in
theorem w_c11 : (Jvm.Cond.code ({ cls := "com/example/fieldloom/fieldloom/mapping/Value", name := "text", desc := "()Ljava/lang/String;" } : Jvm.MethodName) prog_72_method_9_code (1 : Nat) (Option.some (Jvm.ClassFile.FieldType.object "java/lang/String"))).before args0 about1 = true := code_word (m := ⟨10, 3⟩) (meth := k10m3) (c := k10c3) (by decide +kernel) rfl rfl rfl (by decide +kernel)
set_option maxRecDepth 65536 in
theorem w_c12 : (Jvm.Cond.code ({ cls := "java/lang/String", name := "equals", desc := "(Ljava/lang/Object;)Z" } : Jvm.MethodName) jdk_42_method_66_code (3 : Nat) (Option.some Jvm.ClassFile.FieldType.boolean)).before args0 about1 = true := code_word (m := ⟨7, 2⟩) (meth := k7m2) (c := k7c2) (by decide +kernel) rfl rfl rfl (by decide +kernel)
set_option maxRecDepth 65536 in
theorem w_c13 : (Jvm.Cond.code ({ cls := "com/example/fieldloom/fieldloom/mapping/Value", name := "occurrence", desc := "()Lcom/example/fieldloom/fieldloom/mapping/FieldOccurrence;" } : Jvm.MethodName) prog_72_method_10_code (1 : Nat) (Option.some (Jvm.ClassFile.FieldType.object "com/example/fieldloom/fieldloom/mapping/FieldOccurrence"))).before args0 about1 = true := code_word (m := ⟨10, 4⟩) (meth := k10m4) (c := k10c4) (by decide +kernel) rfl rfl rfl (by decide +kernel)
set_option maxRecDepth 65536 in
theorem w_c14 : (Jvm.Cond.code ({ cls := "com/example/fieldloom/fieldloom/mapping/Value", name := "position", desc := "()I" } : Jvm.MethodName) prog_72_method_11_code (1 : Nat) (Option.some Jvm.ClassFile.FieldType.int)).before args0 about1 = true := code_word (m := ⟨10, 5⟩) (meth := k10m5) (c := k10c5) (by decide +kernel) rfl rfl rfl (by decide +kernel)
set_option maxRecDepth 65536 in
theorem w_c15 : (Jvm.Cond.code ({ cls := "com/example/fieldloom/fieldloom/mapping/FieldOccurrence", name := "<init>", desc := "(Ljava/lang/String;ILcom/example/fieldloom/fieldloom/model/DataField;)V" } : Jvm.MethodName) prog_44_method_1_code (4 : Nat) (Option.none : Option Jvm.ClassFile.FieldType)).before args0 about1 = true := code_word (m := ⟨11, 0⟩) (meth := k11m0) (c := k11c0) (by decide +kernel) rfl rfl rfl (by decide +kernel)
def codes1 : List Jvm.Cond := [Jvm.Cond.code x code maxLocals ret, Jvm.Cond.code ({ cls := "java/lang/String", name := "<init>", desc := "([C)V" } : Jvm.MethodName) jdk_42_method_3_code (2 : Nat) (Option.none : Option Jvm.ClassFile.FieldType), Jvm.Cond.code ({ cls := "java/lang/String", name := "<init>", desc := "([CIILjava/lang/Void;)V" } : Jvm.MethodName) jdk_42_method_149_code (6 : Nat) (Option.none : Option Jvm.ClassFile.FieldType), Jvm.Cond.code ({ cls := "java/lang/Object", name := "<init>", desc := "()V" } : Jvm.MethodName) object_method_1_code (1 : Nat) (Option.none : Option Jvm.ClassFile.FieldType), Jvm.Cond.code ({ cls := "java/lang/StringUTF16", name := "compress", desc := "([CII)[B" } : Jvm.MethodName) jdk_52_method_16_code (6 : Nat) (Option.some (Jvm.ClassFile.FieldType.array Jvm.ClassFile.FieldType.byte)), Jvm.Cond.code ({ cls := "java/lang/StringUTF16", name := "compress", desc := "([CI[BII)I" } : Jvm.MethodName) jdk_52_method_21_code (7 : Nat) (Option.some Jvm.ClassFile.FieldType.int), Jvm.Cond.code ({ cls := "java/lang/StringUTF16", name := "coderFromArrayLen", desc := "([BI)B" } : Jvm.MethodName) jdk_52_method_15_code (2 : Nat) (Option.some Jvm.ClassFile.FieldType.byte), Jvm.Cond.code ({ cls := "com/example/fieldloom/fieldloom/mapping/Value", name := "<init>", desc := "(Ljava/lang/String;Lcom/example/fieldloom/fieldloom/mapping/FieldOccurrence;I)V" } : Jvm.MethodName) prog_72_method_2_code (4 : Nat) (Option.none : Option Jvm.ClassFile.FieldType), Jvm.Cond.code ({ cls := "java/lang/Record", name := "<init>", desc := "()V" } : Jvm.MethodName) jdk_30_method_1_code (1 : Nat) (Option.none : Option Jvm.ClassFile.FieldType), Jvm.Cond.code ({ cls := "com/example/fieldloom/fieldloom/mapping/Value", name := "withText", desc := "(Ljava/lang/String;)Lcom/example/fieldloom/fieldloom/mapping/Value;" } : Jvm.MethodName) prog_72_method_5_code (2 : Nat) (Option.some (Jvm.ClassFile.FieldType.object "com/example/fieldloom/fieldloom/mapping/Value")), Jvm.Cond.code ({ cls := "com/example/fieldloom/fieldloom/mapping/Value", name := "<init>", desc := "(Ljava/lang/String;Lcom/example/fieldloom/fieldloom/mapping/FieldOccurrence;)V" } : Jvm.MethodName) prog_72_method_1_code (3 : Nat) (Option.none : Option Jvm.ClassFile.FieldType), Jvm.Cond.code ({ cls := "com/example/fieldloom/fieldloom/mapping/Value", name := "text", desc := "()Ljava/lang/String;" } : Jvm.MethodName) prog_72_method_9_code (1 : Nat) (Option.some (Jvm.ClassFile.FieldType.object "java/lang/String")), Jvm.Cond.code ({ cls := "java/lang/String", name := "equals", desc := "(Ljava/lang/Object;)Z" } : Jvm.MethodName) jdk_42_method_66_code (3 : Nat) (Option.some Jvm.ClassFile.FieldType.boolean), Jvm.Cond.code ({ cls := "com/example/fieldloom/fieldloom/mapping/Value", name := "occurrence", desc := "()Lcom/example/fieldloom/fieldloom/mapping/FieldOccurrence;" } : Jvm.MethodName) prog_72_method_10_code (1 : Nat) (Option.some (Jvm.ClassFile.FieldType.object "com/example/fieldloom/fieldloom/mapping/FieldOccurrence")), Jvm.Cond.code ({ cls := "com/example/fieldloom/fieldloom/mapping/Value", name := "position", desc := "()I" } : Jvm.MethodName) prog_72_method_11_code (1 : Nat) (Option.some Jvm.ClassFile.FieldType.int), Jvm.Cond.code ({ cls := "com/example/fieldloom/fieldloom/mapping/FieldOccurrence", name := "<init>", desc := "(Ljava/lang/String;ILcom/example/fieldloom/fieldloom/model/DataField;)V" } : Jvm.MethodName) prog_44_method_1_code (4 : Nat) (Option.none : Option Jvm.ClassFile.FieldType)]
set_option maxRecDepth 65536 in
theorem codes_eq : words1.filter isCode = codes1 := rfl
theorem w_codes : ∀ c ∈ words1.filter isCode, c.before args0 about1 = true := by
  rw [codes_eq]
  intro c hc
  simp only [codes1, List.mem_cons, List.not_mem_nil, or_false] at hc
  rcases hc with rfl | rfl | rfl | rfl | rfl | rfl | rfl | rfl | rfl | rfl | rfl | rfl | rfl | rfl | rfl | rfl
  · exact w_c0
  · exact w_c1
  · exact w_c2
  · exact w_c3
  · exact w_c4
  · exact w_c5
  · exact w_c6
  · exact w_c7
  · exact w_c8
  · exact w_c9
  · exact w_c10
  · exact w_c11
  · exact w_c12
  · exact w_c13
  · exact w_c14
  · exact w_c15
set_option maxRecDepth 65536 in
theorem w_t1 : (words1.take 24).all (fun c => isCode c || c.before args0 about1) = true := by decide +kernel
set_option maxRecDepth 65536 in
theorem w_t2 : ((words1.drop 24).take 24).all (fun c => isCode c || c.before args0 about1) = true := by decide +kernel
set_option maxRecDepth 65536 in
theorem w_t3 : (((words1.drop 24).drop 24).take 24).all (fun c => isCode c || c.before args0 about1) = true := by decide +kernel
set_option maxRecDepth 65536 in
theorem w_t4 : (((words1.drop 24).drop 24).drop 24).all (fun c => isCode c || c.before args0 about1) = true := by decide +kernel
theorem w_tables : (allAtoms (Jvm.Cond.code x code maxLocals ret :: tables_1)).before args0 about1 = true := by
  rw [allAtoms_all]
  show words1.all (fun c => c.before args0 about1) = true
  refine all_split ?_ w_codes
  rw [← List.take_append_drop 24 words1, List.all_append, w_t1, ← List.take_append_drop 24 (words1.drop 24), List.all_append, w_t2, ← List.take_append_drop 24 ((words1.drop 24).drop 24), List.all_append, w_t3, w_t4]
  rfl
set_option maxRecDepth 65536 in
theorem w_rest : rest_1_c.before args0 about1 = true := by decide +kernel
set_option maxRecDepth 65536 in
theorem w_case : (Jvm.Cond.and given_1 narrow_1).before args0 about1 = true := by decide +kernel
set_option maxRecDepth 65536 in
theorem w_consts : constsHeld consts_1 about1 := Jvm.Lit.constsHeldB_iff.mp (by decide +kernel)
theorem w_applies : (headSpec (Jvm.Cond.code x code maxLocals ret :: tables_1) room_1).applies x e0.platform about1 = true :=
  (Spec.applies_iff w_frames).mpr ⟨w_running, w_runnable, w_alone, w_named, w_hears, w_ripe, w_room, w_tables⟩
theorem atStart : AtStart classFile x code maxLocals ret World_1 tables_1 room_1 Calls_1 rest_1 Pre_1 launch0 p0 e0 about1 theMethod args0 below0 :=
  ⟨lists_1, trivial, launch0.admits_env _ _ _, launch0.least_env, fairChoices_fair.cas, fairChoices_fair.clock, w_frames, w_args, w_heap, w_applies, ⟨w_consts, trivial⟩, w_rest, w_case⟩
end start1
theorem witness_1 : WitnessClaimed_1 := ⟨start1.p0, start1.e0, start1.about1, start1.theMethod, start1.args0, start1.below0, start1.atStart⟩
end Jvm.Pilot.@@N@@
