import JvmDerived
import JvmDerived.Pilot.@@N@@Statement
import JvmDerived.Pilot.@@N@@Code
set_option linter.unusedVariables false
set_option linter.unusedSimpArgs false
namespace Jvm.RoadKit
open Sem ClassFile Op Lib Jvm.Stand Jvm.Free Jvm.LawKit
section New
variable {p : Program} {l : Launch} {e : Env} {R : Room} {s : State} {m : MethodId} {args : Array Value} {below : List Frame} {meth : Method} {c : Code} {T : State} {locs : List Loc} {cells slots : Nat}
theorem retI (X : Stand p l e R s m args below meth c T locs cells slots) (hx : p.tables.exec = Jvm.exec) {pc : Nat} {Ls : Array Slot} {z : Int32} {rest : List Value} (hret : meth.sig.returnType = some .int) (hd : decode c.code pc = .ok (.ireturn, 1)) {fs : List Frame}
    (hl : ∀ (f : JFrame) (acts : List Action), f.method = m → f.locked = none → f.entered = [] → (doReturn e (T.setTop f) acts (some (.int z))).1 = T.setFrames fs) : Steps p.tables e below (T.setTop (mkF m pc Ls (.int z :: rest))) (T.setFrames fs) := by
  have hm' : T.vm.method? m = some meth := X.method'
  have hn : narrow .int (.int z) = .int z := rfl
  show Steps p.tables e below (T.setTop { method := m, pc := pc, locals := Ls, stack := _ :: rest, locked := none }) _
  jvm_step X.here [X.here.top, hx, hd, hm', hret, hn]
  first | (intro acts; rw [hl _ acts rfl rfl rfl]) | rw [hl _ _ rfl rfl rfl]
  exact Steps.refl _
theorem own_retA (X : Stand p l e R s m args below meth c T locs cells slots) (hx : p.tables.exec = Jvm.exec) {pc : Nat} {Ls : Array Slot} {v : Value} {t : FieldType} {rest : List Value} (hv : v.isRef = true) (hret : meth.sig.returnType = some t) (ht : t.isReference = true) (hd : decode c.code pc = .ok (.areturn, 1)) {fs : List Frame}
    (hl : ∀ (f : JFrame) (acts : List Action), f.method = m → f.locked = none → f.entered = [] → (doReturn e (T.setTop f) acts (some v)).1 = T.setFrames fs) : Steps p.tables e below (T.setTop (mkF m pc Ls (v :: rest))) (T.setFrames fs) := by
  have hm' : T.vm.method? m = some meth := X.method'
  show Steps p.tables e below (T.setTop { method := m, pc := pc, locals := Ls, stack := _ :: rest, locked := none }) _
  jvm_step X.here [X.here.top, hx, hd, hm', hret, hv, ht]
  first | (intro acts; rw [hl _ acts rfl rfl rfl]) | rw [hl _ _ rfl rfl rfl]
  exact Steps.refl _
theorem own_go {tb : Tables} {e : Env} {below : List Frame} {A B : State} {P : State → Outcome → Prop} (k : ∀ t, Steps tb e below B t → Steps tb e below A t) (h : ∃ s₂ o, Steps tb e below B s₂ ∧ P s₂ o) : ∃ s₂ o, Steps tb e below A s₂ ∧ P s₂ o := by
  obtain ⟨t, o, h1, h2⟩ := h
  exact ⟨t, o, k t h1, h2⟩
theorem own_abs {tb : Tables} {e : Env} {below : List Frame} {A : State} {P0 : State → Outcome → Prop} (h : ∀ P : State → Outcome → Prop, (∀ s₂ o, P0 s₂ o → P s₂ o) → ∃ s₂ o, Steps tb e below A s₂ ∧ P s₂ o) : ∃ s₂ o, Steps tb e below A s₂ ∧ P0 s₂ o := h P0 fun _ _ q => q
theorem own_oldsz {Z : State} {n0 : Nat} {h : Heap} (O : Old Z n0 h) : n0 ≤ h.size := O.1 ▸ O.2.1
theorem own_b255 (x : Int32) : ¬ (x &&& (255 : Int32)) < 0 ∧ ¬ (255 : Int32) < (x &&& (255 : Int32)) := by
  have h := c_and x 255 (by decide)
  have e : (255 : Int32).toInt = 255 := rfl
  have e0 : (0 : Int32).toInt = 0 := rfl
  rw [Int32.lt_iff_toInt_lt, Int32.lt_iff_toInt_lt]
  omega
theorem own_nc2 (x : Int32) : nar .char (x.toUInt32.toUInt16.toUInt32.toInt32) = x.toUInt32.toUInt16.toUInt32.toInt32 := by
  show (((x.toUInt32.toUInt16.toUInt32).toInt32).toUInt32).toUInt16.toUInt32.toInt32 = _
  rw [UInt32.toUInt32_toInt32, UInt16.toUInt16_toUInt32]
theorem own_nb2 (x : Int32) : x.toInt8.toInt32.toInt8.toInt32 = x.toInt8.toInt32 := by simp
/-- a String's bytes, of its chars -/
abbrev own_bs (cs : List Int32) : List Value := (cs.map fun c => c.toInt8.toInt32).map Value.int
theorem own_narR {v : Value} {t : FieldType} (hv : v.isRef = true) : narrow t v = v := by cases v <;> simp [Value.isRef] at hv <;> cases t <;> rfl
theorem own_fitR {v : Value} {s : String} (hv : v.isRef = true) : fits (.object s) v = true := by cases v <;> simp [Value.isRef] at hv <;> rfl
end New
end Jvm.RoadKit
/- laws to paste: Road.backV (cut by pick.py; bodies as the Statement names them) -/
namespace Jvm.Pilot.@@N@@
namespace StrChars
open Jvm Sem ClassFile Op Lib Jvm.Stand Jvm.Free.XT Jvm.Free.ALB Jvm.Free.JM Jvm.Free
open Jvm.Lib.Cold (StaticIs)
/-- a char array whose places are chars -/
def Ch (a : Addr) (A : Cell) (U : State) : Prop := Arr .char a A U ∧ Typed .char A
theorem Ch.mv {a : Addr} {A : Cell} {U U' : State} (h : Ch a A U) (hal : U.vm.Alike U'.vm) (hh : U'.heap = U.heap) : Ch a A U' := ⟨h.1.mv hal hh, h.2⟩
theorem Ch.keep {a : Addr} {A : Cell} {U U' : State} (h : Ch a A U) (hal : U.vm.Alike U'.vm) (hk : U'.heap[a]? = some A) : Ch a A U' := ⟨h.1.keep hal hk, h.2⟩
/-- what place i of a char[]'s cell holds -/
def cv (A : Cell) (i : Nat) : Int32 := match A.slots[i]? with | some (.int x) => x | _ => 0
theorem Ch.get {a : Addr} {A : Cell} {U : State} (h : Ch a A U) {i : Nat} (hi : i < A.slots.size) : A.slots[i]? = some (.int (cv A i)) := by
  have e := Array.getElem?_eq_getElem hi
  have f := h.2 i _ e
  unfold cv; rw [e]
  generalize A.slots[i] = v at f
  cases v <;> simp [fits] at f ⊢
/-- the byte that i2b leaves of a char -/
def lo8 (x : Int32) : Int32 := x.toInt8.toInt32
theorem fits_lo8 (y : Int32) : fits .byte (.int (lo8 y)) = true := by
  have h1 := y.toInt8.le_toInt
  have h2 := y.toInt8.toInt_lt
  simp only [lo8, fits, Bool.and_eq_true, decide_eq_true_eq, Int32.le_iff_toInt_le, Int8.toInt_toInt32, show (-128 : Int32).toInt = -128 from by decide, show (127 : Int32).toInt = 127 from by decide]
  omega
/-- A' is A but that each place j of lo .. hi - 1 holds f j -/
def Laid (A A' : Cell) (lo hi : Nat) (f : Nat → Value) : Prop := A'.cls = A.cls ∧ A'.vm = A.vm ∧ A'.slots.size = A.slots.size ∧ ∀ i, A'.slots[i]? = if lo ≤ i ∧ i < hi then some (f i) else A.slots[i]?
theorem Laid.zero (A : Cell) (lo : Nat) (f : Nat → Value) : Laid A A lo (lo + 0) f := ⟨rfl, rfl, rfl, fun i => by rw [if_neg (by omega)]⟩
theorem Laid.step {A Ak : Cell} {lo k : Nat} {f : Nat → Value} {v : Value} (h : Laid A Ak lo k f) (hlo : lo ≤ k) (hk : k < Ak.slots.size) (hv : v = f k) : Laid A (Ak.setSlot k v) lo (k + 1) f := by
  refine ⟨h.1, h.2.1, by simpa [Cell.setSlot] using h.2.2.1, fun i => ?_⟩
  by_cases e : k = i
  · subst e; rw [Cell.slots_setSlot_self v hk, if_pos (by omega), hv]
  · rw [Cell.slots_setSlot_ne v e, h.2.2.2 i]
    by_cases q : lo ≤ i ∧ i < k
    · rw [if_pos q, if_pos (by omega)]
    · rw [if_neg q, if_neg (by omega)]
def U16 : String := "java/lang/StringUTF16"
namespace Cmp5
def yN : MethodName := ⟨"java/lang/StringUTF16", "compress", "([CI[BII)I"⟩
abbrev yB : ByteArray := jdk_52_method_21_code
theorem d0 : decode yB 0 = .ok (.iconst 0, 1) := by decide +kernel
theorem d1 : decode yB 1 = .ok (.istore 5, 2) := by decide +kernel
theorem d3 : decode yB 3 = .ok (.iload 5, 2) := by decide +kernel
theorem d5 : decode yB 5 = .ok (.iload 4, 2) := by decide +kernel
theorem d7 : decode yB 7 = .ok (.if_icmp (.ge) 37, 3) := by decide +kernel
theorem d10 : decode yB 10 = .ok (.aload_n 0, 1) := by decide +kernel
theorem d11 : decode yB 11 = .ok (.iload_n 1, 1) := by decide +kernel
theorem d12 : decode yB 12 = .ok (.caload, 1) := by decide +kernel
theorem d13 : decode yB 13 = .ok (.istore 6, 2) := by decide +kernel
theorem d15 : decode yB 15 = .ok (.iload 6, 2) := by decide +kernel
theorem d17 : decode yB 17 = .ok (.sipush 255, 3) := by decide +kernel
theorem d20 : decode yB 20 = .ok (.if_icmp (.le) 6, 3) := by decide +kernel
theorem d26 : decode yB 26 = .ok (.aload_n 2, 1) := by decide +kernel
theorem d27 : decode yB 27 = .ok (.iload_n 3, 1) := by decide +kernel
theorem d28 : decode yB 28 = .ok (.iload 6, 2) := by decide +kernel
theorem d30 : decode yB 30 = .ok (.i2b, 1) := by decide +kernel
theorem d31 : decode yB 31 = .ok (.bastore, 1) := by decide +kernel
theorem d32 : decode yB 32 = .ok (.iinc 1 1, 3) := by decide +kernel
theorem d35 : decode yB 35 = .ok (.iinc 3 1, 3) := by decide +kernel
theorem d38 : decode yB 38 = .ok (.iinc 5 1, 3) := by decide +kernel
theorem d41 : decode yB 41 = .ok (.goto (-38), 3) := by decide +kernel
theorem d44 : decode yB 44 = .ok (.iload 4, 2) := by decide +kernel
theorem d46 : decode yB 46 = .ok (.ireturn, 1) := by decide +kernel
def site : List Cond := []
def tab : Cond := tabOf yN yB 7 (some .int) site
def P (b : Addr) (A : Cell) (d : Addr) (B : Cell) (o q len : Nat) (args : Array Value) (s : State) : Prop := args = #[.ref b, .int (Int32.ofNat o), .ref d, .int (Int32.ofNat q), .int (Int32.ofNat len)] ∧ Ch b A s ∧ Arr .byte d B s ∧ b ≠ d ∧ o + len ≤ A.slots.size ∧ q + len ≤ B.slots.size ∧ ∀ i, i < len → ¬ 255 < cv A (o + i)
def E (b : Addr) (A : Cell) (d : Addr) (B : Cell) (o q len : Nat) (r : Option Value) (s u : State) : Prop := r = some (.int (Int32.ofNat len)) ∧ ∃ B', Put d B' s u ∧ Laid B B' q (q + len) (fun j => Value.int (lo8 (cv A (o + (j - q)))))
/-- no char of the range above 255: len; the places written hold each char's low byte -/
theorem law (l : Launch) (b : Addr) (A : Cell) (d : Addr) (B : Cell) (o q len : Nat) : Law l yN 5 5 0 0 yB 7 (some .int) site (P b A d B o q len) (E b A d B o q len) (copyLocs d q len) 0 0 := by
  refine Law.of_walk (plainFor_of_name (by decide +kernel)) (by decide +kernel) (by decide +kernel) (by decide) (fun _ _ h => by rw [h.1]; rfl) (fun _ U U' hal hh h => ⟨h.1, h.2.1.mv hal hh, h.2.2.1.mv hal hh, h.2.2.2⟩) (fun r U U' V V' h1 hal h2 h => ⟨h.1, h.2.elim fun B' q => ⟨B', q.1.mv h1 h2, q.2⟩⟩) ?_
  intro p e s m args below meth c s₁ X0 hexec hbytes hml hret hlk hnm hown hh0 W hP
  obtain ⟨rfl, hA, hB, hne, l1, l2, hp⟩ := hP
  have c1 : Steps p.tables e below (s₁.setTop (entryFrame m #[.ref b, .int (Int32.ofNat o), .ref d, .int (Int32.ofNat q), .int (Int32.ofNat len)] 7)) (s₁.setTop (mkF m 0 #[.val (.ref b), .val (.int (Int32.ofNat o)), .val (.ref d), .val (.int (Int32.ofNat q)), .val (.int (Int32.ofNat len)), .unset, .unset] [])) := entry rfl
  have hA0 := hA.1.mv X0.warmed.alike hh0
  have hB0 := hB.mv X0.warmed.alike hh0
  have a31 := hA.1.2.2.2
  have c2 : Steps p.tables e below (s₁.setTop (entryFrame m #[.ref b, .int (Int32.ofNat o), .ref d, .int (Int32.ofNat q), .int (Int32.ofNat len)] 7)) (s₁.setTop (mkF m 3 #[.val (.ref b), .val (.int (Int32.ofNat o)), .val (.ref d), .val (.int (Int32.ofNat q)), .val (.int (Int32.ofNat len)), .val (.int 0), .unset] [])) := c1.trans (by
    refine iconstV X0.here hexec rfl 0 (hb hbytes d0) (by decide) ?_
    refine XS.istore X0.here hexec rfl (hb hbytes d1) rfl rfl ?_
    exact Steps.refl _)
  have loop : ∀ (r i : Nat), i + r = len → ∀ (z : Slot), (z = .unset ∨ ∃ w, z = .val w ∧ w.category = 1) → ∀ (Tl : State) (Bk : Cell), Stand p l e { frames := 0, locals := 0, cells := 0, slots := 0 } s m #[.ref b, .int (Int32.ofNat o), .ref d, .int (Int32.ofNat q), .int (Int32.ofNat len)] below meth c Tl ([] ++ copyLocs d q i) 0 0 → Put d Bk s₁ Tl → Laid B Bk q (q + i) (fun j => Value.int (lo8 (cv A (o + (j - q))))) →
      Steps p.tables e below (s₁.setTop (entryFrame m #[.ref b, .int (Int32.ofNat o), .ref d, .int (Int32.ofNat q), .int (Int32.ofNat len)] 7)) (Tl.setTop (mkF m 3 #[.val (.ref b), .val (.int (Int32.ofNat (o + i))), .val (.ref d), .val (.int (Int32.ofNat (q + i))), .val (.int (Int32.ofNat len)), .val (.int (Int32.ofNat i)), z] [])) → ∃ (T' : State) (B' : Cell) (z' : Slot), Stand p l e { frames := 0, locals := 0, cells := 0, slots := 0 } s m #[.ref b, .int (Int32.ofNat o), .ref d, .int (Int32.ofNat q), .int (Int32.ofNat len)] below meth c T' ([] ++ copyLocs d q len) 0 0 ∧ Put d B' s₁ T' ∧ Laid B B' q (q + len) (fun j => Value.int (lo8 (cv A (o + (j - q))))) ∧
      Steps p.tables e below (s₁.setTop (entryFrame m #[.ref b, .int (Int32.ofNat o), .ref d, .int (Int32.ofNat q), .int (Int32.ofNat len)] 7)) (T'.setTop (mkF m 3 #[.val (.ref b), .val (.int (Int32.ofNat (o + len))), .val (.ref d), .val (.int (Int32.ofNat (q + len))), .val (.int (Int32.ofNat len)), .val (.int (Int32.ofNat len)), z'] [])) := by
    intro r
    induction r with
    | zero =>
      intro i hi z hz Tl Bk Xl pl fl cl
      have hil : i = len := by omega
      rw [hil] at Xl fl cl
      exact ⟨Tl, Bk, z, Xl, pl, fl, cl⟩
    | succ r ih =>
      intro i hi z hz Tl Bk Xl pl fl cl
      have all := X0.warmed.alike.symm.trans Xl.warmed.alike
      have hAl := hA0.keep all (pl.other hne hA0.1)
      have hBk := hB0.like all pl.1 fl.1 fl.2.1 fl.2.2.1
      have hlt : q + i < Bk.slots.size := by rw [fl.2.2.1]; omega
      have c3 : Steps p.tables e below (s₁.setTop (entryFrame m #[.ref b, .int (Int32.ofNat o), .ref d, .int (Int32.ofNat q), .int (Int32.ofNat len)] 7)) (Tl.setTop (mkF m 12 #[.val (.ref b), .val (.int (Int32.ofNat (o + i))), .val (.ref d), .val (.int (Int32.ofNat (q + i))), .val (.int (Int32.ofNat len)), .val (.int (Int32.ofNat i)), z] [.int (Int32.ofNat (o + i)), .ref b])) := cl.trans (by
        refine XS.iload Xl.here hexec rfl (hb hbytes d3) rfl ?_
        refine XS.iload Xl.here hexec rfl (hb hbytes d5) rfl ?_
        refine XS.icmpNo Xl.here hexec rfl (hb hbytes d7) rfl (ii_ge_f (lt32 (by omega) (by omega))) ?_
        refine XS.aloadN Xl.here hexec rfl (hb hbytes d10) rfl rfl ?_
        refine XS.iloadN Xl.here hexec rfl (hb hbytes d11) rfl ?_
        exact Steps.refl _)
      have c4 : Steps p.tables e below (s₁.setTop (entryFrame m #[.ref b, .int (Int32.ofNat o), .ref d, .int (Int32.ofNat q), .int (Int32.ofNat len)] 7)) (Tl.setTop (mkF m 13 #[.val (.ref b), .val (.int (Int32.ofNat (o + i))), .val (.ref d), .val (.int (Int32.ofNat (q + i))), .val (.int (Int32.ofNat len)), .val (.int (Int32.ofNat i)), z] [.int (cv A (o + i))])) := c3.trans (by
        refine Xl.aget hexec hAl rfl (hA.get (i := o + i) (by omega)) rfl rfl (hb hbytes d12) ?_
        exact Steps.refl _)
      have c5 : Steps p.tables e below (s₁.setTop (entryFrame m #[.ref b, .int (Int32.ofNat o), .ref d, .int (Int32.ofNat q), .int (Int32.ofNat len)] 7)) (Tl.setTop (mkF m 15 #[.val (.ref b), .val (.int (Int32.ofNat (o + i))), .val (.ref d), .val (.int (Int32.ofNat (q + i))), .val (.int (Int32.ofNat len)), .val (.int (Int32.ofNat i)), .val (.int (cv A (o + i)))] [])) := c4.trans (by
        refine XS.istoreS Xl.here hexec rfl (hb hbytes d13) rfl rfl hz ?_
        exact Steps.refl _)
      have c6 : Steps p.tables e below (s₁.setTop (entryFrame m #[.ref b, .int (Int32.ofNat o), .ref d, .int (Int32.ofNat q), .int (Int32.ofNat len)] 7)) (Tl.setTop (mkF m 31 #[.val (.ref b), .val (.int (Int32.ofNat (o + i))), .val (.ref d), .val (.int (Int32.ofNat (q + i))), .val (.int (Int32.ofNat len)), .val (.int (Int32.ofNat i)), .val (.int (cv A (o + i)))] [.int (lo8 (cv A (o + i))), .int (Int32.ofNat (q + i)), .ref d])) := c5.trans (by
        refine XS.iload Xl.here hexec rfl (hb hbytes d15) rfl ?_
        refine sipushV Xl.here hexec rfl 255 (hb hbytes d17) (by decide) ?_
        refine XS.icmpYes Xl.here hexec rfl (pc0 := 20) rfl (hb hbytes d20) rfl (ii_le_t (hp i (by omega))) (by decide) rfl ?_
        refine XS.aloadN Xl.here hexec rfl (hb hbytes d26) rfl rfl ?_
        refine XS.iloadN Xl.here hexec rfl (hb hbytes d27) rfl ?_
        refine XS.iload Xl.here hexec rfl (hb hbytes d28) rfl ?_
        refine i2b Xl.here hexec rfl (hb hbytes d30) rfl ?_
        exact Steps.refl _)
      obtain ⟨T7, X7, p7, st7⟩ := Xl.aput hexec hBk rfl hlt rfl (fits_lo8 (cv A (o + i))) (g := (mkF m 31 #[.val (.ref b), .val (.int (Int32.ofNat (o + i))), .val (.ref d), .val (.int (Int32.ofNat (q + i))), .val (.int (Int32.ofNat len)), .val (.int (Int32.ofNat i)), .val (.int (cv A (o + i)))] [.int (lo8 (cv A (o + i))), .int (Int32.ofNat (q + i)), .ref d])) rfl (rest := []) rfl (hb hbytes d31)
      have c8 : Steps p.tables e below (s₁.setTop (entryFrame m #[.ref b, .int (Int32.ofNat o), .ref d, .int (Int32.ofNat q), .int (Int32.ofNat len)] 7)) (T7.setTop (mkF m 32 #[.val (.ref b), .val (.int (Int32.ofNat (o + i))), .val (.ref d), .val (.int (Int32.ofNat (q + i))), .val (.int (Int32.ofNat len)), .val (.int (Int32.ofNat i)), .val (.int (cv A (o + i)))] [])) := c6.trans (st7 _ (Steps.refl _))
      have c9 : Steps p.tables e below (s₁.setTop (entryFrame m #[.ref b, .int (Int32.ofNat o), .ref d, .int (Int32.ofNat q), .int (Int32.ofNat len)] 7)) (T7.setTop (mkF m 3 #[.val (.ref b), .val (.int (Int32.ofNat (o + i) + 1)), .val (.ref d), .val (.int (Int32.ofNat (q + i) + 1)), .val (.int (Int32.ofNat len)), .val (.int (Int32.ofNat i + 1)), .val (.int (cv A (o + i)))] [])) := c8.trans (by
        refine iincV X7.here hexec rfl 1 (hb hbytes d32) (by decide) rfl rfl ?_
        refine iincV X7.here hexec rfl 1 (hb hbytes d35) (by decide) rfl rfl ?_
        refine iincV X7.here hexec rfl 1 (hb hbytes d38) (by decide) rfl rfl ?_
        refine XS.goto X7.here hexec rfl (pc0 := 41) rfl (hb hbytes d41) (by decide) rfl ?_
        exact Steps.refl _)
      have c10 : Steps p.tables e below (s₁.setTop (entryFrame m #[.ref b, .int (Int32.ofNat o), .ref d, .int (Int32.ofNat q), .int (Int32.ofNat len)] 7)) (T7.setTop (mkF m 3 #[.val (.ref b), .val (.int (Int32.ofNat (o + (i + 1)))), .val (.ref d), .val (.int (Int32.ofNat (q + (i + 1)))), .val (.int (Int32.ofNat len)), .val (.int (Int32.ofNat (i + 1))), .val (.int (cv A (o + i)))] [])) := by
        have := c9
        rw [succ32, succ32, succ32] at this
        exact this
      exact ih (i + 1) (by omega) _ (Or.inr ⟨_, rfl, rfl⟩) T7 _ (by rw [copyLocs_step, ← List.append_assoc]; exact X7) (pl.trans p7) (fl.step (by omega) hlt (by simp)) c10
  obtain ⟨T9, B9, z9, X9, p9, f9, g9⟩ := loop len 0 (by omega) .unset (Or.inl rfl) s₁ B (by simpa [copyLocs] using X0) ⟨hB0.1, fun _ _ => rfl, rfl⟩ (Laid.zero _ _ _) c2
  have c11 : Steps p.tables e below (s₁.setTop (entryFrame m #[.ref b, .int (Int32.ofNat o), .ref d, .int (Int32.ofNat q), .int (Int32.ofNat len)] 7)) (T9.setTop (mkF m 46 #[.val (.ref b), .val (.int (Int32.ofNat (o + len))), .val (.ref d), .val (.int (Int32.ofNat (q + len))), .val (.int (Int32.ofNat len)), .val (.int (Int32.ofNat len)), z9] [.int (Int32.ofNat len)])) := g9.trans (by
    refine XS.iload X9.here hexec rfl (hb hbytes d3) rfl ?_
    refine XS.iload X9.here hexec rfl (hb hbytes d5) rfl ?_
    refine XS.icmpYes X9.here hexec rfl (pc0 := 7) rfl (hb hbytes d7) rfl (ii_ge_t (nlt32 (by omega) (Nat.le_refl _))) (by decide) rfl ?_
    refine XS.iload X9.here hexec rfl (hb hbytes d44) rfl ?_
    exact Steps.refl _)
  exact ⟨T9, some (.int (Int32.ofNat len)), _, _, _, X9, by simp, rfl, rfl, (fun h => by cases h), ⟨rfl, B9, p9.from hh0, f9⟩, fun fs hl => c11.trans (X9.ireturnOut hexec hret rfl (Or.inl rfl) (hb hbytes d46) hl)⟩
end Cmp5
namespace Cmp3
def yN : MethodName := ⟨"java/lang/StringUTF16", "compress", "([CII)[B"⟩
abbrev yB : ByteArray := jdk_52_method_16_code
theorem d0 : decode yB 0 = .ok (.iload_n 2, 1) := by decide +kernel
theorem d1 : decode yB 1 = .ok (.newarray .byte, 2) := by decide +kernel
theorem d3 : decode yB 3 = .ok (.astore_n 3, 1) := by decide +kernel
theorem d4 : decode yB 4 = .ok (.aload_n 0, 1) := by decide +kernel
theorem d5 : decode yB 5 = .ok (.iload_n 1, 1) := by decide +kernel
theorem d6 : decode yB 6 = .ok (.aload_n 3, 1) := by decide +kernel
theorem d7 : decode yB 7 = .ok (.iconst 0, 1) := by decide +kernel
theorem d8 : decode yB 8 = .ok (.iload_n 2, 1) := by decide +kernel
theorem d9 : decode yB 9 = .ok (.invokestatic 115, 3) := by decide +kernel
theorem d12 : decode yB 12 = .ok (.istore 4, 2) := by decide +kernel
theorem d14 : decode yB 14 = .ok (.iload 4, 2) := by decide +kernel
theorem d16 : decode yB 16 = .ok (.iload_n 2, 1) := by decide +kernel
theorem d17 : decode yB 17 = .ok (.if_icmp (.eq) 40, 3) := by decide +kernel
theorem d57 : decode yB 57 = .ok (.aload_n 3, 1) := by decide +kernel
theorem d58 : decode yB 58 = .ok (.areturn, 1) := by decide +kernel
def site : List Cond := [.arrayClass .byte, Cmp5.tab] ++ staticW U16 115 Cmp5.yN
def tab : Cond := tabOf yN yB 6 (some (.array .byte)) site
def P (b : Addr) (A : Cell) (o len : Nat) (args : Array Value) (s : State) : Prop := args = #[.ref b, .int (Int32.ofNat o), .int (Int32.ofNat len)] ∧ Ch b A s ∧ o + len ≤ A.slots.size ∧ len ≤ 536870912 ∧ ∀ i, i < len → ¬ 255 < cv A (o + i)
def E (b : Addr) (A : Cell) (o len : Nat) (r : Option Value) (s u : State) : Prop := NewArr .byte "[B" len (fun j => .int (lo8 (cv A (o + j)))) r s u ∧ u.heap.size = s.heap.size + 1
/-- no char of the range above 255: a new byte[] of their low bytes -/
theorem law (l : Launch) (b : Addr) (A : Cell) (o len : Nat) : Law l yN 3 3 1 18 yB 6 (some (.array .byte)) site (P b A o len) (E b A o len) [] 1 len := by
  refine Law.of_walk (plainFor_of_name (by decide +kernel)) (by decide +kernel) (by decide +kernel) (by decide) (fun _ _ h => by rw [h.1]; rfl) (fun _ U U' hal hh h => ⟨h.1, h.2.1.mv hal hh, h.2.2⟩) (fun r U U' V V' h1 hal h2 h => ⟨NewArr.mv r U U' V V' h1 hal h2 h.1, by rw [h1, h2]; exact h.2⟩) ?_
  intro p e s m args below meth c s₁ X0 hexec hbytes hml hret hlk hnm hown hh0 W hP
  obtain ⟨rfl, hA, l1, l2, hp⟩ := hP
  have a31 := hA.1.2.2.2
  have c1 : Steps p.tables e below (s₁.setTop (entryFrame m #[.ref b, .int (Int32.ofNat o), .int (Int32.ofNat len)] 6)) (s₁.setTop (mkF m 0 #[.val (.ref b), .val (.int (Int32.ofNat o)), .val (.int (Int32.ofNat len)), .unset, .unset, .unset] [])) := entry rfl
  have c2 : Steps p.tables e below (s₁.setTop (entryFrame m #[.ref b, .int (Int32.ofNat o), .int (Int32.ofNat len)] 6)) (s₁.setTop (mkF m 1 #[.val (.ref b), .val (.int (Int32.ofNat o)), .val (.int (Int32.ofNat len)), .unset, .unset, .unset] [.int (Int32.ofNat len)])) := c1.trans (by
    refine XS.iloadN X0.here hexec rfl (hb hbytes d0) rfl ?_
    exact Steps.refl _)
  obtain ⟨T3, B3, X3, ba3, bs3, bv3, bh3, bf3, st3⟩ := X0.anew hexec (atype := .byte) (wk W (.arrayClass .byte)) rfl (by show len * 1 ≤ _; omega) (by omega) (g := (mkF m 1 #[.val (.ref b), .val (.int (Int32.ofNat o)), .val (.int (Int32.ofNat len)), .unset, .unset, .unset] [.int (Int32.ofNat len)])) rfl (hb hbytes d1) (rest := []) rfl (Nat.le_refl _) (by show 0 + len ≤ len; omega)
  rw [hh0] at ba3 st3
  have kp3 : XT.Kept s T3 := (XT.Kept.of_eq hh0).push bh3
  have hA3 := hA.keep X3.warmed.alike (kp3 _ _ hA.1.1)
  have hne : b ≠ s.heap.size := hA.1.ne
  have c4 : Steps p.tables e below (s₁.setTop (entryFrame m #[.ref b, .int (Int32.ofNat o), .int (Int32.ofNat len)] 6)) (T3.setTop (mkF m 3 #[.val (.ref b), .val (.int (Int32.ofNat o)), .val (.int (Int32.ofNat len)), .unset, .unset, .unset] [.ref s.heap.size])) := c2.trans (st3 _ (Steps.refl _))
  have c5 : Steps p.tables e below (s₁.setTop (entryFrame m #[.ref b, .int (Int32.ofNat o), .int (Int32.ofNat len)] 6)) (T3.setTop (mkF m 9 #[.val (.ref b), .val (.int (Int32.ofNat o)), .val (.int (Int32.ofNat len)), .val (.ref s.heap.size), .unset, .unset] [.int (Int32.ofNat len), .int 0, .ref s.heap.size, .int (Int32.ofNat o), .ref b])) := c4.trans (by
    refine XS.astoreN X3.here hexec rfl (hb hbytes d3) rfl rfl rfl ?_
    refine XS.aloadN X3.here hexec rfl (hb hbytes d4) rfl rfl ?_
    refine XS.iloadN X3.here hexec rfl (hb hbytes d5) rfl ?_
    refine XS.aloadN X3.here hexec rfl (hb hbytes d6) rfl rfl ?_
    refine iconstV X3.here hexec rfl 0 (hb hbytes d7) (by decide) ?_
    refine XS.iloadN X3.here hexec rfl (hb hbytes d8) rfl ?_
    exact Steps.refl _)
  obtain ⟨v6, T6, X6, E6, g6⟩ := X3.callS hexec (Cmp5.law l b A s.heap.size B3 o 0 len) hown (wks W (staticW U16 115 Cmp5.yN)) (wk W Cmp5.tab) (W := 0) (Nat.le_of_ble_eq_true rfl) (Nat.le_of_ble_eq_true rfl) (Nat.le_refl _) (by show 0 + len + 0 ≤ len; omega) (g := (mkF m 9 #[.val (.ref b), .val (.int (Int32.ofNat o)), .val (.int (Int32.ofNat len)), .val (.ref s.heap.size), .unset, .unset] [.int (Int32.ofNat len), .int (Int32.ofNat 0), .ref s.heap.size, .int (Int32.ofNat o), .ref b])) rfl (by rw [hml]; rfl) c5 (argsL := [.ref b, .int (Int32.ofNat o), .ref s.heap.size, .int (Int32.ofNat 0), .int (Int32.ofNat len)]) (rest := []) rfl rfl (by show 2 * 0 + 0 ≤ _; decide) (hb hbytes d9) (⟨rfl, hA3, ba3, hne, l1, by rw [bs3]; simp, hp⟩)
  obtain ⟨rfl, B6, p6, f6⟩ := E6
  have c7 : Steps p.tables e below (s₁.setTop (entryFrame m #[.ref b, .int (Int32.ofNat o), .int (Int32.ofNat len)] 6)) (T6.setTop (mkF m 12 #[.val (.ref b), .val (.int (Int32.ofNat o)), .val (.int (Int32.ofNat len)), .val (.ref s.heap.size), .unset, .unset] [.int (Int32.ofNat len)])) := g6
  have c8 : Steps p.tables e below (s₁.setTop (entryFrame m #[.ref b, .int (Int32.ofNat o), .int (Int32.ofNat len)] 6)) (T6.setTop (mkF m 58 #[.val (.ref b), .val (.int (Int32.ofNat o)), .val (.int (Int32.ofNat len)), .val (.ref s.heap.size), .val (.int (Int32.ofNat len)), .unset] [.ref s.heap.size])) := c7.trans (by
    refine XS.istore X6.here hexec rfl (hb hbytes d12) rfl rfl ?_
    refine XS.iload X6.here hexec rfl (hb hbytes d14) rfl ?_
    refine XS.iloadN X6.here hexec rfl (hb hbytes d16) rfl ?_
    refine XS.icmpYes X6.here hexec rfl (pc0 := 17) rfl (hb hbytes d17) rfl (ii_eq_t rfl) (by decide) rfl ?_
    refine XS.aloadN X6.here hexec rfl (hb hbytes d57) rfl rfl ?_
    exact Steps.refl _)
  have X8 := X6.wide (L' := []) (cells' := 1) (slots' := len) (fun x hx hlt => by
    simp only [List.nil_append, copyLocs, List.mem_map, List.mem_range] at hx
    obtain ⟨i, -, rfl⟩ := hx
    exact absurd hlt (Nat.lt_irrefl _)) (Nat.le_refl _) (by omega)
  exact ⟨T6, some (.ref s.heap.size), _, _, _, X8, rfl, rfl, rfl, (fun h => by cases h), ⟨⟨rfl, B6, ba3.like (X3.warmed.alike.symm.trans X6.warmed.alike) p6.1 f6.1 f6.2.1 f6.2.2.1, f6.2.1.trans bv3, by rw [X6.warmed.alike.findClass, f6.1]; exact bf3, by rw [f6.2.2.1, bs3]; simp, fun j hj => by rw [f6.2.2.2 j, if_pos (by omega)]; rfl, kp3.put p6 (Nat.le_refl _)⟩, by rw [p6.2.2, bh3, hh0]; simp⟩, fun fs hl => c8.trans (X8.areturnOut hexec rfl hret rfl (hb hbytes d58) hl)⟩
end Cmp3
namespace CodL
def yN : MethodName := ⟨"java/lang/StringUTF16", "coderFromArrayLen", "([BI)B"⟩
abbrev yB : ByteArray := jdk_52_method_15_code
theorem d0 : decode yB 0 = .ok (.iload_n 1, 1) := by decide +kernel
theorem d1 : decode yB 1 = .ok (.aload_n 0, 1) := by decide +kernel
theorem d2 : decode yB 2 = .ok (.arraylength, 1) := by decide +kernel
theorem d3 : decode yB 3 = .ok (.isub, 1) := by decide +kernel
theorem d4 : decode yB 4 = .ok (.bipush 31, 2) := by decide +kernel
theorem d6 : decode yB 6 = .ok (.iushr, 1) := by decide +kernel
theorem d7 : decode yB 7 = .ok (.i2b, 1) := by decide +kernel
theorem d8 : decode yB 8 = .ok (.ireturn, 1) := by decide +kernel
def site : List Cond := []
def tab : Cond := tabOf yN yB 2 (some .byte) site
def P (d : Addr) (B : Cell) (args : Array Value) (s : State) : Prop := args = #[.ref d, .int (Int32.ofNat B.slots.size)] ∧ Arr .byte d B s
def E (r : Option Value) (s u : State) : Prop := XT.PureE (some (.int 0)) r s u
/-- an array as long as the number of chars: LATIN1 -/
theorem law (l : Launch) (d : Addr) (B : Cell) : Law l yN 2 2 0 0 yB 2 (some .byte) site (P d B) E [] 0 0 := by
  refine Law.of_walk (plainFor_of_name (by decide +kernel)) (by decide +kernel) (by decide +kernel) (by decide) (fun _ _ h => by rw [h.1]; rfl) (fun _ U U' hal hh h => ⟨h.1, h.2.mv hal hh⟩) (fun r U U' V V' h1 hal h2 h => XT.PureE.mv r U U' V V' h1 hal h2 h) ?_
  intro p e s m args below meth c s₁ X0 hexec hbytes hml hret hlk hnm hown hh0 W hP
  obtain ⟨rfl, hB⟩ := hP
  have hB0 := hB.mv X0.warmed.alike hh0
  have c1 : Steps p.tables e below (s₁.setTop (entryFrame m #[.ref d, .int (Int32.ofNat B.slots.size)] 2)) (s₁.setTop (mkF m 0 #[.val (.ref d), .val (.int (Int32.ofNat B.slots.size))] [])) := entry rfl
  have c2 : Steps p.tables e below (s₁.setTop (entryFrame m #[.ref d, .int (Int32.ofNat B.slots.size)] 2)) (s₁.setTop (mkF m 2 #[.val (.ref d), .val (.int (Int32.ofNat B.slots.size))] [.ref d, .int (Int32.ofNat B.slots.size)])) := c1.trans (by
    refine XS.iloadN X0.here hexec rfl (hb hbytes d0) rfl ?_
    refine XS.aloadN X0.here hexec rfl (hb hbytes d1) rfl rfl ?_
    exact Steps.refl _)
  have c3 : Steps p.tables e below (s₁.setTop (entryFrame m #[.ref d, .int (Int32.ofNat B.slots.size)] 2)) (s₁.setTop (mkF m 8 #[.val (.ref d), .val (.int (Int32.ofNat B.slots.size))] [.int (lo8 (ushr (Int32.ofNat B.slots.size - Int32.ofNat B.slots.size) 31))])) := c2.trans (by
    refine X0.alen hexec hB0 rfl rfl (hb hbytes d2) ?_
    refine XS.isub X0.here hexec rfl (hb hbytes d3) rfl ?_
    refine bipushV X0.here hexec rfl 31 (hb hbytes d4) (by decide) ?_
    refine iushr X0.here hexec rfl (hb hbytes d6) rfl ?_
    refine i2b X0.here hexec rfl (hb hbytes d7) rfl ?_
    exact Steps.refl _)
  have e0 : lo8 (ushr (Int32.ofNat B.slots.size - Int32.ofNat B.slots.size) 31) = 0 := by rw [Int32.sub_self]; decide
  rw [e0] at c3
  exact ⟨s₁, some (.int 0), _, _, _, X0, rfl, rfl, rfl, (fun h => by cases h), ⟨rfl, hh0⟩, fun fs hl => c3.trans (X0.ireturnOut hexec hret rfl (Or.inr (Or.inr (Or.inl rfl))) (hb hbytes d8) hl)⟩
end CodL
/-- the String at a is Latin-1 over a new byte[] (the heap's one new cell): the low bytes of the len chars of A from o on; every cell but a is kept -/
def Got (a : Addr) (D : Cell) (fV fC : Field) (A : Cell) (o len : Nat) (r : Option Value) (s u : State) : Prop := r = none ∧ ∃ D' V : Cell, Blank "java/lang/String" a D' u ∧ Same D D' [fV.slot, fC.slot] ∧ D'.slots[fV.slot]? = some (.ref s.heap.size) ∧ D'.slots[fC.slot]? = some (.int 0) ∧ Arr .byte s.heap.size V u ∧ V.vm = .none ∧ u.vm.findClass "[B" = some V.cls ∧ V.slots.size = len ∧ (∀ j, j < len → V.slots[j]? = some (.int (lo8 (cv A (o + j))))) ∧ (∀ (y : Addr) (c : Cell), y ≠ a → s.heap[y]? = some c → u.heap[y]? = some c) ∧ u.heap.size = s.heap.size + 1
theorem Got.mv {a : Addr} {D A : Cell} {fV fC : Field} {o len : Nat} : ∀ r (U U' V V' : State), U'.heap = U.heap → V.vm.Alike V'.vm → V'.heap = V.heap → Got a D fV fC A o len r U V → Got a D fV fC A o len r U' V' :=
  fun r U U' V V' h1 hal h2 ⟨e0, D', X, a1, a2, a3, a4, a5, a6, a7, a8, a9, a10, a11⟩ => ⟨e0, D', X, a1.mv hal h2, a2, by rw [h1]; exact a3, a4, by rw [h1]; exact a5.mv hal h2, a6, by rw [hal.findClass]; exact a7, a8, a9, by rw [h1, h2]; exact a10, by rw [h1, h2]; exact a11⟩
namespace New4
def yN : MethodName := ⟨"java/lang/String", "<init>", "([CIILjava/lang/Void;)V"⟩
abbrev yB : ByteArray := jdk_42_method_149_code
theorem d0 : decode yB 0 = .ok (.aload_n 0, 1) := by decide +kernel
theorem d1 : decode yB 1 = .ok (.invokespecial 1, 3) := by decide +kernel
theorem d4 : decode yB 4 = .ok (.iload_n 3, 1) := by decide +kernel
theorem d5 : decode yB 5 = .ok (.ifCond (.ne) 22, 3) := by decide +kernel
theorem d27 : decode yB 27 = .ok (.getstatic 38, 3) := by decide +kernel
theorem d30 : decode yB 30 = .ok (.ifCond (.eq) 28, 3) := by decide +kernel
theorem d33 : decode yB 33 = .ok (.aload_n 1, 1) := by decide +kernel
theorem d34 : decode yB 34 = .ok (.iload_n 2, 1) := by decide +kernel
theorem d35 : decode yB 35 = .ok (.iload_n 3, 1) := by decide +kernel
theorem d36 : decode yB 36 = .ok (.invokestatic 177, 3) := by decide +kernel
theorem d39 : decode yB 39 = .ok (.astore 5, 2) := by decide +kernel
theorem d41 : decode yB 41 = .ok (.aload_n 0, 1) := by decide +kernel
theorem d42 : decode yB 42 = .ok (.aload 5, 2) := by decide +kernel
theorem d44 : decode yB 44 = .ok (.iload_n 3, 1) := by decide +kernel
theorem d45 : decode yB 45 = .ok (.invokestatic 47, 3) := by decide +kernel
theorem d48 : decode yB 48 = .ok (.putfield 15, 3) := by decide +kernel
theorem d51 : decode yB 51 = .ok (.aload_n 0, 1) := by decide +kernel
theorem d52 : decode yB 52 = .ok (.aload 5, 2) := by decide +kernel
theorem d54 : decode yB 54 = .ok (.putfield 9, 3) := by decide +kernel
theorem d57 : decode yB 57 = .ok (.return_, 1) := by decide +kernel
def site : List Cond := [.fieldLink "java/lang/String" 38 "java/lang/String" "COMPACT_STRINGS" "Z", Cmp3.tab, CodL.tab, .laysFinal "java/lang/String" "java/lang/String" "value" "[B", .fieldLink "java/lang/String" 9 "java/lang/String" "value" "[B", .laysFinal "java/lang/String" "java/lang/String" "coder" "B", .fieldLink "java/lang/String" 15 "java/lang/String" "coder" "B"] ++ objW "java/lang/String" 1 ++ staticW "java/lang/String" 177 Cmp3.yN ++ staticW "java/lang/String" 47 CodL.yN
def tab : Cond := tabOf yN yB 6 none site
def P (a : Addr) (D : Cell) (fV fC : Field) (b : Addr) (A : Cell) (z : Int32) (o len : Nat) (args : Array Value) (s : State) : Prop := args = #[.ref a, .ref b, .int (Int32.ofNat o), .int (Int32.ofNat len), .null] ∧ Blank "java/lang/String" a D s ∧ Found "java/lang/String" "value" "[B" fV s ∧ Found "java/lang/String" "coder" "B" fC s ∧ Ch b A s ∧ StaticIs s "java/lang/String" "COMPACT_STRINGS" "Z" (.int z) ∧ ¬ z = 0 ∧ 0 < len ∧ o + len ≤ A.slots.size ∧ len ≤ 536870912 ∧ ∀ i, i < len → ¬ 255 < cv A (o + i)
def E (a : Addr) (D : Cell) (fV fC : Field) (A : Cell) (o len : Nat) (r : Option Value) (s u : State) : Prop := Got a D fV fC A o len r s u
/-- len > 0, no char of the range above 255: a Latin-1 String of their low bytes -/
theorem law (l : Launch) (a : Addr) (D : Cell) (fV fC : Field) (b : Addr) (A : Cell) (z : Int32) (o len : Nat) : Law l yN 5 4 2 35 yB 6 none site (P a D fV fC b A z o len) (E a D fV fC A o len) [⟨a, fC.slot⟩, ⟨a, fV.slot⟩] 1 len := by
  refine Law.of_walk (plainFor_of_name (by decide +kernel)) (by decide +kernel) (by decide +kernel) (by decide) (fun _ _ h => by rw [h.1]; rfl) (fun _ U U' hal hh h => ⟨h.1, h.2.1.mv hal hh, h.2.2.1.al hal, h.2.2.2.1.al hal, h.2.2.2.2.1.mv hal hh, h.2.2.2.2.2.1.there hal hh, h.2.2.2.2.2.2⟩) (fun r U U' V V' h1 hal h2 h => Got.mv r U U' V V' h1 hal h2 h) ?_
  intro p e s m args below meth c s₁ X0 hexec hbytes hml hret hlk hnm hown hh0 W hP
  obtain ⟨rfl, hB, f1, f2, hA, s1, hz, l0, l1, l2, hp⟩ := hP
  have a31 := hA.1.2.2.2
  have c1 : Steps p.tables e below (s₁.setTop (entryFrame m #[.ref a, .ref b, .int (Int32.ofNat o), .int (Int32.ofNat len), .null] 6)) (s₁.setTop (mkF m 0 #[.val (.ref a), .val (.ref b), .val (.int (Int32.ofNat o)), .val (.int (Int32.ofNat len)), .val .null, .unset] [])) := entry rfl
  have c2 : Steps p.tables e below (s₁.setTop (entryFrame m #[.ref a, .ref b, .int (Int32.ofNat o), .int (Int32.ofNat len), .null] 6)) (s₁.setTop (mkF m 1 #[.val (.ref a), .val (.ref b), .val (.int (Int32.ofNat o)), .val (.int (Int32.ofNat len)), .val .null, .unset] [.ref a])) := c1.trans (by
    refine XS.aloadN X0.here hexec rfl (hb hbytes d0) rfl rfl ?_
    exact Steps.refl _)
  obtain ⟨T3, X3, q3, st3⟩ := X0.oinit hexec hown (wks W (objW "java/lang/String" 1)) (g := (mkF m 1 #[.val (.ref a), .val (.ref b), .val (.int (Int32.ofNat o)), .val (.int (Int32.ofNat len)), .val .null, .unset] [.ref a])) rfl (by rw [hml]; rfl) (rest := []) rfl (hb hbytes d1) (W := 0) (by show 2 * 0 + 0 ≤ _; decide) (Nat.le_of_ble_eq_true rfl) (Nat.le_of_ble_eq_true rfl)
  have hh3 := q3.trans hh0
  have c4 : Steps p.tables e below (s₁.setTop (entryFrame m #[.ref a, .ref b, .int (Int32.ofNat o), .int (Int32.ofNat len), .null] 6)) (T3.setTop (mkF m 27 #[.val (.ref a), .val (.ref b), .val (.int (Int32.ofNat o)), .val (.int (Int32.ofNat len)), .val .null, .unset] [])) := (c2.trans (st3 _ (Steps.refl _))).trans (by
    refine XS.iloadN X3.here hexec rfl (hb hbytes d4) rfl ?_
    refine XS.ifYes X3.here hexec rfl (pc0 := 5) rfl (hb hbytes d5) rfl (i0_ne_t (nz32 (by omega) l0)) (by decide) rfl ?_
    exact Steps.refl _)
  obtain ⟨T5, X5, q5, st5⟩ := X3.sget hexec hown (wk W (.fieldLink "java/lang/String" 38 "java/lang/String" "COMPACT_STRINGS" "Z")) s1 (fun _ _ h => by rw [hh3]; exact h) (g := (mkF m 27 #[.val (.ref a), .val (.ref b), .val (.int (Int32.ofNat o)), .val (.int (Int32.ofNat len)), .val .null, .unset] [])) rfl (hb hbytes d27)
  have hh5 := q5.trans hh3
  have c6 : Steps p.tables e below (s₁.setTop (entryFrame m #[.ref a, .ref b, .int (Int32.ofNat o), .int (Int32.ofNat len), .null] 6)) (T5.setTop (mkF m 30 #[.val (.ref a), .val (.ref b), .val (.int (Int32.ofNat o)), .val (.int (Int32.ofNat len)), .val .null, .unset] [.int z])) := c4.trans (st5 _ (Steps.refl _))
  have c7 : Steps p.tables e below (s₁.setTop (entryFrame m #[.ref a, .ref b, .int (Int32.ofNat o), .int (Int32.ofNat len), .null] 6)) (T5.setTop (mkF m 36 #[.val (.ref a), .val (.ref b), .val (.int (Int32.ofNat o)), .val (.int (Int32.ofNat len)), .val .null, .unset] [.int (Int32.ofNat len), .int (Int32.ofNat o), .ref b])) := c6.trans (by
    refine XS.ifNo X5.here hexec rfl (hb hbytes d30) rfl (i0_eq_f hz) ?_
    refine XS.aloadN X5.here hexec rfl (hb hbytes d33) rfl rfl ?_
    refine XS.iloadN X5.here hexec rfl (hb hbytes d34) rfl ?_
    refine XS.iloadN X5.here hexec rfl (hb hbytes d35) rfl ?_
    exact Steps.refl _)
  obtain ⟨v8, T8, X8, E8, g8⟩ := X5.callS hexec (Cmp3.law l b A o len) hown (wks W (staticW "java/lang/String" 177 Cmp3.yN)) (wk W Cmp3.tab) (W := 0) (Nat.le_of_ble_eq_true rfl) (Nat.le_of_ble_eq_true rfl) (Nat.le_refl _) (by show 0 + len ≤ len; omega) (g := (mkF m 36 #[.val (.ref a), .val (.ref b), .val (.int (Int32.ofNat o)), .val (.int (Int32.ofNat len)), .val .null, .unset] [.int (Int32.ofNat len), .int (Int32.ofNat o), .ref b])) rfl (by rw [hml]; rfl) c7 (argsL := [.ref b, .int (Int32.ofNat o), .int (Int32.ofNat len)]) (rest := []) rfl rfl (by show 2 * 0 + 0 ≤ _; decide) (hb hbytes d36) (⟨rfl, hA.mv X5.warmed.alike hh5, l1, l2, hp⟩)
  obtain ⟨e8, z8⟩ := E8
  obtain ⟨rfl, N, n1, n2, n3, n4, n5, n6⟩ := NewArr.mv _ T5 s _ _ hh5.symm (Vm.Alike.refl _) rfl e8
  rw [hh5] at z8
  have hB1 := hB.keep X8.warmed.alike (n6 _ _ hB.1)
  have hne : s.heap.size ≠ a := (Nat.ne_of_lt (Array.getElem?_eq_some_iff.mp hB.1).1).symm
  have c9 : Steps p.tables e below (s₁.setTop (entryFrame m #[.ref a, .ref b, .int (Int32.ofNat o), .int (Int32.ofNat len), .null] 6)) (T8.setTop (mkF m 39 #[.val (.ref a), .val (.ref b), .val (.int (Int32.ofNat o)), .val (.int (Int32.ofNat len)), .val .null, .unset] [.ref s.heap.size])) := g8
  have c10 : Steps p.tables e below (s₁.setTop (entryFrame m #[.ref a, .ref b, .int (Int32.ofNat o), .int (Int32.ofNat len), .null] 6)) (T8.setTop (mkF m 45 #[.val (.ref a), .val (.ref b), .val (.int (Int32.ofNat o)), .val (.int (Int32.ofNat len)), .val .null, .val (.ref s.heap.size)] [.int (Int32.ofNat N.slots.size), .ref s.heap.size, .ref a])) := by
    have hc : Steps p.tables e below (s₁.setTop (entryFrame m #[.ref a, .ref b, .int (Int32.ofNat o), .int (Int32.ofNat len), .null] 6)) (T8.setTop (mkF m 45 #[.val (.ref a), .val (.ref b), .val (.int (Int32.ofNat o)), .val (.int (Int32.ofNat len)), .val .null, .val (.ref s.heap.size)] [.int (Int32.ofNat len), .ref s.heap.size, .ref a])) := c9.trans (by
      refine XS.astore X8.here hexec rfl (hb hbytes d39) rfl rfl rfl ?_
      refine XS.aloadN X8.here hexec rfl (hb hbytes d41) rfl rfl ?_
      refine XS.aload X8.here hexec rfl (hb hbytes d42) rfl rfl ?_
      refine XS.iloadN X8.here hexec rfl (hb hbytes d44) rfl ?_
      exact Steps.refl _)
    rw [n4]; exact hc
  obtain ⟨v11, T11, X11, E11, g11⟩ := X8.callS hexec (CodL.law l s.heap.size N) hown (wks W (staticW "java/lang/String" 47 CodL.yN)) (wk W CodL.tab) (W := 1) (Nat.le_of_ble_eq_true rfl) (Nat.le_of_ble_eq_true rfl) (Nat.le_refl _) (by show 0 + len + 0 ≤ len; omega) (g := (mkF m 45 #[.val (.ref a), .val (.ref b), .val (.int (Int32.ofNat o)), .val (.int (Int32.ofNat len)), .val .null, .val (.ref s.heap.size)] [.int (Int32.ofNat N.slots.size), .ref s.heap.size, .ref a])) rfl (by rw [hml]; rfl) c10 (argsL := [.ref s.heap.size, .int (Int32.ofNat N.slots.size)]) (rest := [.ref a]) rfl rfl (by show 2 * 0 + (1 + 0) ≤ _; decide) (hb hbytes d45) (⟨rfl, n1⟩)
  obtain ⟨rfl, q11⟩ := E11
  have hB11 := hB1.mv (X8.warmed.alike.symm.trans X11.warmed.alike) q11
  have c12 : Steps p.tables e below (s₁.setTop (entryFrame m #[.ref a, .ref b, .int (Int32.ofNat o), .int (Int32.ofNat len), .null] 6)) (T11.setTop (mkF m 48 #[.val (.ref a), .val (.ref b), .val (.int (Int32.ofNat o)), .val (.int (Int32.ofNat len)), .val .null, .val (.ref s.heap.size)] [.int 0, .ref a])) := g11
  obtain ⟨T13, X13, p13, bl13, sl13, st13⟩ := X11.finit hexec hown (wk W (.fieldLink "java/lang/String" 15 "java/lang/String" "coder" "B")) (Or.inr ⟨_, (wk W (.laysFinal "java/lang/String" "java/lang/String" "coder" "B"))⟩) (Or.inl ⟨rfl, hnm⟩) f2 (Or.inl rfl) hB11 (t := .byte) (by decide +kernel) rfl (g := (mkF m 48 #[.val (.ref a), .val (.ref b), .val (.int (Int32.ofNat o)), .val (.int (Int32.ofNat len)), .val .null, .val (.ref s.heap.size)] [.int 0, .ref a])) rfl (rest := []) rfl (hb hbytes d48)
  have c14 : Steps p.tables e below (s₁.setTop (entryFrame m #[.ref a, .ref b, .int (Int32.ofNat o), .int (Int32.ofNat len), .null] 6)) (T13.setTop (mkF m 54 #[.val (.ref a), .val (.ref b), .val (.int (Int32.ofNat o)), .val (.int (Int32.ofNat len)), .val .null, .val (.ref s.heap.size)] [.ref s.heap.size, .ref a])) := (c12.trans (st13 _ (Steps.refl _))).trans (by
    refine XS.aloadN X13.here hexec rfl (hb hbytes d51) rfl rfl ?_
    refine XS.aload X13.here hexec rfl (hb hbytes d52) rfl rfl ?_
    exact Steps.refl _)
  obtain ⟨T15, X15, p15, bl15, sl15, st15⟩ := X13.finit hexec hown (wk W (.fieldLink "java/lang/String" 9 "java/lang/String" "value" "[B")) (Or.inr ⟨_, (wk W (.laysFinal "java/lang/String" "java/lang/String" "value" "[B"))⟩) (Or.inl ⟨rfl, hnm⟩) f1 (Or.inl rfl) bl13 (t := (.array .byte)) (by decide +kernel) rfl (g := (mkF m 54 #[.val (.ref a), .val (.ref b), .val (.int (Int32.ofNat o)), .val (.int (Int32.ofNat len)), .val .null, .val (.ref s.heap.size)] [.ref s.heap.size, .ref a])) rfl (rest := []) rfl (hb hbytes d54)
  have c16 : Steps p.tables e below (s₁.setTop (entryFrame m #[.ref a, .ref b, .int (Int32.ofNat o), .int (Int32.ofNat len), .null] 6)) (T15.setTop (mkF m 57 #[.val (.ref a), .val (.ref b), .val (.int (Int32.ofNat o)), .val (.int (Int32.ofNat len)), .val .null, .val (.ref s.heap.size)] [])) := c14.trans (st15 _ (Steps.refl _))
  have ap := apart (Or.inr ⟨_, (wk W (.laysFinal "java/lang/String" "java/lang/String" "value" "[B"))⟩) (Or.inr ⟨_, (wk W (.laysFinal "java/lang/String" "java/lang/String" "coder" "B"))⟩) f1 f2 (t₁ := .array .byte) (t₂ := .byte) (by decide +kernel) (by decide +kernel) (by decide)
  have al := X8.warmed.alike.symm.trans X15.warmed.alike
  have n7 : T11.heap[s.heap.size]? = some N := by rw [q11]; exact n1.1
  exact ⟨T15, none, _, _, _, X15, by simp, rfl, by omega, (fun _ => rfl), ⟨rfl, _, N, bl15, ((Same.refl D _).set _ (by simp)).set _ (by simp), sl15, (Cell.slots_setSlot_ne _ ap).trans sl13, n1.keep al (p15.other hne (p13.other hne n7)), n2, by rw [al.findClass]; exact n3, n4, n5, fun y c h1 h2 => p15.other h1 (p13.other h1 (by rw [q11]; exact n6 y c h2)), by rw [p15.2.2, p13.2.2, q11]; exact z8⟩, fun fs hl => c16.trans (X15.returnOut hexec hret (hb hbytes d57) hl)⟩
end New4
namespace New1
def yN : MethodName := ⟨"java/lang/String", "<init>", "([C)V"⟩
abbrev yB : ByteArray := jdk_42_method_3_code
theorem d0 : decode yB 0 = .ok (.aload_n 0, 1) := by decide +kernel
theorem d1 : decode yB 1 = .ok (.aload_n 1, 1) := by decide +kernel
theorem d2 : decode yB 2 = .ok (.iconst 0, 1) := by decide +kernel
theorem d3 : decode yB 3 = .ok (.aload_n 1, 1) := by decide +kernel
theorem d4 : decode yB 4 = .ok (.arraylength, 1) := by decide +kernel
theorem d5 : decode yB 5 = .ok (.aconst_null, 1) := by decide +kernel
theorem d6 : decode yB 6 = .ok (.invokespecial 27, 3) := by decide +kernel
theorem d9 : decode yB 9 = .ok (.return_, 1) := by decide +kernel
def site : List Cond := [New4.tab] ++ initW "java/lang/String" 27 New4.yN
def tab : Cond := tabOf yN yB 2 none site
def P (a : Addr) (D : Cell) (fV fC : Field) (b : Addr) (A : Cell) (z : Int32) (args : Array Value) (s : State) : Prop := args = #[.ref a, .ref b] ∧ Blank "java/lang/String" a D s ∧ Found "java/lang/String" "value" "[B" fV s ∧ Found "java/lang/String" "coder" "B" fC s ∧ Ch b A s ∧ StaticIs s "java/lang/String" "COMPACT_STRINGS" "Z" (.int z) ∧ ¬ z = 0 ∧ 0 < A.slots.size ∧ A.slots.size ≤ 536870912 ∧ ∀ i, i < A.slots.size → ¬ 255 < cv A i
def E (a : Addr) (D : Cell) (fV fC : Field) (A : Cell) (r : Option Value) (s u : State) : Prop := Got a D fV fC A 0 A.slots.size r s u
/-- new String(chars), not empty, no char above 255: a Latin-1 String of their low bytes -/
theorem law (l : Launch) (a : Addr) (D : Cell) (fV fC : Field) (b : Addr) (A : Cell) (z : Int32) : Law l yN 2 1 3 52 yB 2 none site (P a D fV fC b A z) (E a D fV fC A) [⟨a, fC.slot⟩, ⟨a, fV.slot⟩] 1 A.slots.size := by
  refine Law.of_walk (plainFor_of_name (by decide +kernel)) (by decide +kernel) (by decide +kernel) (by decide) (fun _ _ h => by rw [h.1]; rfl) (fun _ U U' hal hh h => ⟨h.1, h.2.1.mv hal hh, h.2.2.1.al hal, h.2.2.2.1.al hal, h.2.2.2.2.1.mv hal hh, h.2.2.2.2.2.1.there hal hh, h.2.2.2.2.2.2⟩) (fun r U U' V V' h1 hal h2 h => Got.mv r U U' V V' h1 hal h2 h) ?_
  intro p e s m args below meth c s₁ X0 hexec hbytes hml hret hlk hnm hown hh0 W hP
  obtain ⟨rfl, hB, f1, f2, hA, s1, hz, l0, l2, hp⟩ := hP
  have c1 : Steps p.tables e below (s₁.setTop (entryFrame m #[.ref a, .ref b] 2)) (s₁.setTop (mkF m 0 #[.val (.ref a), .val (.ref b)] [])) := entry rfl
  have c2 : Steps p.tables e below (s₁.setTop (entryFrame m #[.ref a, .ref b] 2)) (s₁.setTop (mkF m 6 #[.val (.ref a), .val (.ref b)] [.null, .int (Int32.ofNat A.slots.size), .int 0, .ref b, .ref a])) := c1.trans (by
    refine XS.aloadN X0.here hexec rfl (hb hbytes d0) rfl rfl ?_
    refine XS.aloadN X0.here hexec rfl (hb hbytes d1) rfl rfl ?_
    refine iconstV X0.here hexec rfl 0 (hb hbytes d2) (by decide) ?_
    refine XS.aloadN X0.here hexec rfl (hb hbytes d3) rfl rfl ?_
    refine X0.alen hexec (hA.1.mv X0.warmed.alike hh0) rfl rfl (hb hbytes d4) ?_
    refine XS.aconstNull X0.here hexec rfl (hb hbytes d5) ?_
    exact Steps.refl _)
  obtain ⟨v3, T3, X3, E3, g3⟩ := X0.callN hexec (New4.law l a D fV fC b A z 0 A.slots.size) rfl hown (wks W (initW "java/lang/String" 27 New4.yN)) (W New4.tab (by simp only [site, List.mem_cons, List.mem_append, true_or, or_true])) (W := 0) (Nat.le_of_ble_eq_true rfl) (Nat.le_of_ble_eq_true rfl) (Nat.le_refl _) (by show 0 + A.slots.size ≤ A.slots.size; omega) (g := (mkF m 6 #[.val (.ref a), .val (.ref b)] [.null, .int (Int32.ofNat A.slots.size), .int (Int32.ofNat 0), .ref b, .ref a])) rfl (by rw [hml]; rfl) c2 (argsL := [.ref b, .int (Int32.ofNat 0), .int (Int32.ofNat A.slots.size), .null]) (rest := []) rfl rfl (by show 2 * 0 + 0 ≤ _; decide) (hb hbytes d6) (⟨rfl, hB.mv X0.warmed.alike hh0, f1.al X0.warmed.alike, f2.al X0.warmed.alike, hA.mv X0.warmed.alike hh0, s1.there X0.warmed.alike hh0, hz, l0, by omega, l2, fun i hi => by rw [Nat.zero_add]; exact hp i hi⟩)
  have e0 := Got.mv _ s₁ s _ _ hh0.symm (Vm.Alike.refl _) rfl E3
  obtain rfl := e0.1
  have c4 : Steps p.tables e below (s₁.setTop (entryFrame m #[.ref a, .ref b] 2)) (T3.setTop (mkF m 9 #[.val (.ref a), .val (.ref b)] [])) := g3
  exact ⟨T3, none, _, _, _, X3, by simp, rfl, by omega, (fun _ => rfl), e0, fun fs hl => c4.trans (X3.returnOut hexec hret (hb hbytes d9) hl)⟩
theorem pays {l : Launch} {R : Room} {p : Program} {e : Env} {below : List Frame} {s : State} {sargs : Array Value} {len W : Nat} (a : Addr) (D : Cell) (fV fC : Field) (b : Addr) (A : Cell) (z : Int32) (htab : tab.before sargs s = true) (hfr : 4 ≤ R.frames) (hlo : W + 65 ≤ R.locals) :
    Back l R p e below s sargs yN len W (fun A₁ a₁ => A₁.cells + 1 ≤ R.cells ∧ A₁.slots + A.slots.size ≤ R.slots ∧ P a D fV fC b A z a₁ A₁.U) (fun A₁ _ v₁ B₁ => E a D fV fC A v₁ A₁.U B₁.U ∧ B₁.locs = A₁.locs ++ [⟨a, fC.slot⟩, ⟨a, fV.slot⟩] ∧ B₁.cells = A₁.cells + 1 ∧ B₁.slots = A₁.slots + A.slots.size) :=
  (law l a D fV fC b A z).pays htab hfr (by omega)
end New1
end StrChars
namespace StrChars.Road
open Jvm Sem ClassFile Op Lib Jvm.Stand Jvm.Free Jvm.Free.XT
open Jvm.Lib.Cold (StaticIs)
abbrev ST : String := "java/lang/String"
/-- every table word that New1's law asks, flat -/
abbrev words : List Jvm.Cond := [.code New1.yN New1.yB 2 none, .initialized ST, .methodLink ST 27 New4.yN, .instanceMethod New4.yN,
  .code New4.yN New4.yB 6 none, .fieldLink ST 38 ST "COMPACT_STRINGS" "Z", .laysFinal ST ST "value" "[B", .fieldLink ST 9 ST "value" "[B", .laysFinal ST ST "coder" "B", .fieldLink ST 15 ST "coder" "B",
  .methodLink ST 1 Lib.objectInit, .instanceMethod Lib.objectInit, .code Lib.objectInit ⟨#[0xb1]⟩ 1 none, .methodLink ST 177 Cmp3.yN, .static Cmp3.yN, .methodLink ST 47 CodL.yN, .static CodL.yN,
  .code Cmp3.yN Cmp3.yB 6 (some (.array .byte)), .initialized U16, .arrayClass .byte, .methodLink U16 115 Cmp5.yN, .static Cmp5.yN, .code Cmp5.yN Cmp5.yB 7 (some .int), .code CodL.yN CodL.yB 2 (some .byte)]
theorem tab_of {a : Array Value} {s : State} (h : ∀ w ∈ words, w.before a s = true) : New1.tab.before a s = true := by
  have h5 : Cmp5.tab.before a s = true := unparts (wk h (.code Cmp5.yN Cmp5.yB 7 (some .int))) (wks h (.initialized Cmp5.yN.cls :: Cmp5.site))
  have hc : CodL.tab.before a s = true := unparts (wk h (.code CodL.yN CodL.yB 2 (some .byte))) (wks h (.initialized CodL.yN.cls :: CodL.site))
  have q5 : ∀ w ∈ Cmp5.tab :: words, w.before a s = true := fun w hw => (List.mem_cons.mp hw).elim (fun e => e ▸ h5) (h w)
  have h3 : Cmp3.tab.before a s = true := unparts (wk q5 (.code Cmp3.yN Cmp3.yB 6 (some (.array .byte)))) (wks q5 (.initialized Cmp3.yN.cls :: Cmp3.site))
  have q3 : ∀ w ∈ Cmp3.tab :: CodL.tab :: words, w.before a s = true := fun w hw => (List.mem_cons.mp hw).elim (fun e => e ▸ h3) fun hw => (List.mem_cons.mp hw).elim (fun e => e ▸ hc) (h w)
  have h4 : New4.tab.before a s = true := unparts (wk q3 (.code New4.yN New4.yB 6 none)) (wks q3 (.initialized New4.yN.cls :: New4.site))
  have q4 : ∀ w ∈ New4.tab :: words, w.before a s = true := fun w hw => (List.mem_cons.mp hw).elim (fun e => e ▸ h4) (h w)
  exact unparts (wk q4 (.code New1.yN New1.yB 2 none)) (wks q4 (.initialized New1.yN.cls :: New1.site))
/-- the words ride from the start Z to the walk's own state -/
theorem moved {Z s : State} {a0 args : Array Value} (hZ : Z.Warmed39 s.vm) (hw : ∀ d ∈ words, d.before a0 Z = true) : ∀ d ∈ words, d.before args s = true := fun d hd => by
  have q := hw d hd
  have t : ∀ d ∈ words, d = .arrayClass .byte ∨ (d.onTables && d.keepsFace) = true := by decide +kernel
  rcases t d hd with rfl | t
  · exact RoadKit.mvA hZ q
  · exact RoadKit.mv hZ q t
/-- WHAT COMES BACK, over the tables of the start Z: h the heap at the call, h' behind it -/
def Q (Z : State) (x : Addr) (A : Cell) (h : Heap) (v : Option Value) (h' : Heap) (L : List Loc) : Prop := v = none ∧ (∀ y ∈ L, y.base = x) ∧ RoadKit.Keep h h' [x] ∧ h'.size = h.size + 1 ∧ RoadKit.Exa Z h' x ST ∧ RoadKit.Fld Z h' x ST "value" "[B" (.ref h.size) ∧ RoadKit.Fld Z h' x ST "coder" "B" (.int 0) ∧
  (∃ V : Cell, RoadKit.Arr Z h' h.size V .byte ∧ V.vm = .none ∧ Z.vm.findClass "[B" = some V.cls ∧ V.slots.size = A.slots.size ∧ ∀ j, j < A.slots.size → V.slots[j]? = some (.int (lo8 (cv A j)))) ∧
  ∀ (O n d : String) (w : Value), RoadKit.Fld Z h x O n d w → RoadKit.slotOf Z O n d ≠ RoadKit.slotOf Z ST "value" "[B" → RoadKit.slotOf Z O n d ≠ RoadKit.slotOf Z ST "coder" "B" → RoadKit.Fld Z h' x O n d w
/-- **new String(chars) AT A CALL, IN THE ROAD'S FORM**: for specialBack behind newO: x the fresh String, b the char[] with the cell A -/
theorem back {p : Program} {l : Launch} {e : Env} {R : Room} {s : State} {args : Array Value} {below : List Frame} {len W : Nat} {Z : State} {a0 : Array Value} {h : Heap} (hZ : Z.Warmed39 s.vm) (hw : ∀ d ∈ words, d.before a0 Z = true) {kI : Nat} (wi : (Jvm.Cond.instantiable ST kI).before a0 Z = true)
    {x b : Addr} {A : Cell} {z : Int32} {v0 c0 : Value} (E : RoadKit.Exa Z h x ST) (V : RoadKit.Fld Z h x ST "value" "[B" v0) (C : RoadKit.Fld Z h x ST "coder" "B" c0) (K : RoadKit.Arr Z h b A .char) (hty : Typed .char A) (S : RoadKit.Sta Z h ST "COMPACT_STRINGS" "Z" (.int z)) (hz : ¬ z = 0)
    (l0 : 0 < A.slots.size) (l2 : A.slots.size ≤ 536870912) (hp : ∀ i, i < A.slots.size → ¬ 255 < cv A i) (hfr : 4 ≤ R.frames) (hlo : W + 65 ≤ R.locals) :
    Back l R p e below s args New1.yN len W (fun P a => a = #[.ref x, .ref b] ∧ P.U.heap = h ∧ P.cells + 1 ≤ R.cells ∧ P.slots + A.slots.size ≤ R.slots)
      (fun P _ v B => ∃ L, Q Z x A h v B.U.heap L ∧ B.locs = P.locs ++ L ∧ B.cells = P.cells + 1 ∧ B.slots = P.slots + A.slots.size) := by
  intro m meth c P g ig mk a X hg hsize hdg hW hn hp'
  obtain ⟨rfl, rfl, r1, r2⟩ := hp'
  have al : Z.vm.Alike P.U.vm := hZ.alike.trans X.warmed.alike
  obtain ⟨D, cfV, kV, iV, fV, hD, gV, stV, knV, obV, asV, slV⟩ := id V
  obtain ⟨D', cfC, kC, iC, fC, hD', gC, stC, -, -, asC, slC⟩ := id C
  cases hD.symm.trans hD'
  obtain ⟨D2, kD, e1, e2, e3, e4, e5⟩ := id E
  cases hD.symm.trans e1
  obtain ⟨c2, k2, i1, i2, i3, -⟩ := Cond.instantiable_spec wi
  cases e2.symm.trans i1
  cases e3.symm.trans i2
  obtain ⟨kU, u1, u2⟩ := al.2.2 _ _ e3
  have hB : Blank ST x D P.U := ⟨hD, ⟨knV, fun q hq => by rw [hq] at obV; cases obV⟩, by rw [al.findClass]; exact e2, kU, u1, by rw [u2]; exact i3, by rw [u2]; exact e5 i3⟩
  have F1 : Found ST "value" "[B" fV P.U := ⟨SBG.found_only al ⟨cfV, kV, iV, gV⟩, stV⟩
  have F2 : Found ST "coder" "B" fC P.U := ⟨SBG.found_only al ⟨cfC, kC, iC, gC⟩, stC⟩
  have hA : Ch b A P.U := ⟨⟨K.1, State.isArrayOf_alike al K.2.1, K.2.2, by omega⟩, hty⟩
  have hS : StaticIs P.U ST "COMPACT_STRINGS" "Z" (.int z) := by
    obtain ⟨cfS, iS, kS, fS, st, cS, t1, t2, t3, t4, t5, t6, t7⟩ := S
    exact StaticIs.there (s := { Z with heap := P.U.heap }) ⟨cfS, iS, kS, fS, st, cS, t1, t2, t3, t4, t5, (fun q => by rw [q] at t6; cases t6), t7⟩ al rfl
  obtain ⟨v, B, X', ⟨⟨hv, E', V', q1, q2, q3, q4, q5, q6, q7, q8, q9, q10, q11⟩, hl, hc, hs⟩, st⟩ := New1.pays x D fV fC b A z (tab_of (moved hZ hw)) hfr hlo m meth c P g ig mk _ X hg hsize hdg hW hn ⟨r1, r2, rfl, hB, F1, F2, hA, hS, hz, l0, l2, hp⟩
  have al' : Z.vm.Alike B.U.vm := hZ.alike.trans X'.warmed.alike
  have hsz : E'.slots.size = D.slots.size := by
    obtain ⟨-, -, -, kB, w1, w2, w3⟩ := q1
    obtain ⟨kB', y1, y2⟩ := al'.2.2 _ _ e3
    rw [q2.2.1] at w1
    cases w1.symm.trans y1
    rw [w3, e5 i3, y2]
  refine ⟨v, B, X', ⟨_, ⟨hv, ?_, ⟨by omega, fun y cy hy hn' => q10 y cy (by simpa using hn') hy, fun y cy hy => ?_⟩, q11, ⟨E', _, q1.1, by rw [q2.2.1]; exact e2, by rw [q2.2.1]; exact e3, by rw [q2.1]; exact obV, fun _ => by rw [hsz]; exact e5 i3⟩,
    ⟨E', cfV, kV, iV, fV, q1.1, gV, stV, by rw [q2.1]; exact knV, by rw [q2.1]; exact obV, by rw [q2.2.1]; exact asV, q3⟩, ⟨E', cfC, kC, iC, fC, q1.1, gC, stC, by rw [q2.1]; exact knV, by rw [q2.1]; exact obV, by rw [q2.2.1]; exact asC, q4⟩,
    ⟨V', ⟨q5.1, State.isArrayOf_alike al'.symm q5.2.1, q5.2.2.1⟩, q6, by rw [← al'.findClass]; exact q7, q8, fun j hj => by have := q9 j hj; rwa [Nat.zero_add] at this⟩, fun O n d w F n1 n2 => ?_⟩, hl, hc, hs⟩, st⟩
  · intro y hy
    simp only [List.mem_cons, List.not_mem_nil, or_false] at hy
    rcases hy with rfl | rfl <;> rfl
  · by_cases q : y = x
    · subst q
      cases hD.symm.trans hy
      exact ⟨E', q1.1, q2.2.1, q2.1, hsz⟩
    · exact ⟨cy, q10 y cy q hy, rfl, rfl, rfl⟩
  · obtain ⟨D3, cf, k, i, f, g1, g2, g3, g4, g5, g6, g7⟩ := F
    cases hD.symm.trans g1
    simp only [RoadKit.slotOf, g2, gV, gC, Option.map_some, Option.getD_some] at n1 n2
    exact ⟨E', cf, k, i, f, q1.1, g2, g3, by rw [q2.1]; exact g4, by rw [q2.1]; exact g5, by rw [q2.2.1]; exact g6, by rw [q2.2.2 f.slot (by simp [n1, n2])]; exact g7⟩
end StrChars.Road
namespace StrChars.Road
open Jvm Sem ClassFile Op Lib Jvm.Stand Jvm.Free Jvm.Free.XT
/-- WHAT COMES BACK, the byte[] as a list of values -/
def QA (Z : State) (x : Addr) (zn : Int32) (cs : List Int32) (h : Heap) (v : Option Value) (h' : Heap) (L : List Loc) : Prop := v = none ∧ (∀ y ∈ L, y.base = x) ∧ RoadKit.Keep h h' [x] ∧ h'.size = h.size + 1 ∧ RoadKit.Exa Z h' x ST ∧ RoadKit.Fld Z h' x ST "value" "[B" (.ref h.size) ∧ RoadKit.Fld Z h' x ST "coder" "B" (.int 0) ∧
  (∃ kb, Z.vm.findClass "[B" = some kb ∧ RoadKit.Arv Z h' h.size kb .byte zn (cs.map fun c => .int (lo8 c)) (.int 0)) ∧
  ∀ (O n d : String) (w : Value), RoadKit.Fld Z h x O n d w → RoadKit.slotOf Z O n d ≠ RoadKit.slotOf Z ST "value" "[B" → RoadKit.slotOf Z O n d ≠ RoadKit.slotOf Z ST "coder" "B" → RoadKit.Fld Z h' x O n d w
/-- **new String(chars) AT A CALL, THE ARRAYS AS LISTS**: the char[] at b holds cs, not empty, no char above 255 -/
theorem backArv {p : Program} {l : Launch} {e : Env} {R : Room} {s : State} {args : Array Value} {below : List Frame} {len W : Nat} {Z : State} {a0 : Array Value} {h : Heap} (hZ : Z.Warmed39 s.vm) (hw : ∀ d ∈ words, d.before a0 Z = true) {kI : Nat} (wi : (Jvm.Cond.instantiable ST kI).before a0 Z = true)
    {x b : Addr} {k : ClassId} {zn z : Int32} {cs : List Int32} {dv v0 c0 : Value} (E : RoadKit.Exa Z h x ST) (V : RoadKit.Fld Z h x ST "value" "[B" v0) (C : RoadKit.Fld Z h x ST "coder" "B" c0) (K : RoadKit.Arv Z h b k .char zn (cs.map Value.int) dv) (S : RoadKit.Sta Z h ST "COMPACT_STRINGS" "Z" (.int z)) (hz : ¬ z = 0)
    (hlen : zn.toNatClampNeg = cs.length) (h0 : 0 < cs.length) (hbig : cs.length ≤ 536870912) (hall : ∀ c ∈ cs, ¬ 255 < c) (hfr : 4 ≤ R.frames) (hlo : W + 65 ≤ R.locals) :
    Back l R p e below s args New1.yN len W (fun P a => a = #[.ref x, .ref b] ∧ P.U.heap = h ∧ P.cells + 1 ≤ R.cells ∧ P.slots + cs.length ≤ R.slots)
      (fun P _ v B => ∃ L, QA Z x zn cs h v B.U.heap L ∧ B.locs = P.locs ++ L ∧ B.cells = P.cells + 1 ∧ B.slots = P.slots + cs.length) := by
  obtain ⟨A, K1, K2, K3, K4, K5, K6⟩ := K
  have e : A.slots.size = cs.length := K3.trans hlen
  have hat : ∀ (i : Nat) (hi : i < cs.length), A.slots[i]? = some (.int cs[i]) := fun i hi => by rw [K5 i (by omega)]; simp [List.getD_eq_getElem?_getD, hi]
  have hcv : ∀ (i : Nat) (hi : i < cs.length), cv A i = cs[i] := fun i hi => by unfold cv; rw [hat i hi]
  have hty : Typed .char A := fun i v hv => by
    have hi : i < A.slots.size := (Array.getElem?_eq_some_iff.mp hv).1
    have q := K5 i hi
    rw [hv] at q
    rw [Option.some.inj q]
    exact K6 i hi
  refine Back.mono (back hZ hw wi E V C K1 hty S hz (by omega) (by omega) (fun i hi => by rw [hcv i (by omega)]; exact hall _ (List.getElem_mem _)) hfr hlo) (fun P a hp => ⟨hp.1, hp.2.1, hp.2.2.1, by rw [e]; exact hp.2.2.2⟩) (fun P a v B hp hq => ?_)
  obtain ⟨L, ⟨q1, q2, q3, q4, q5, q6, q7, ⟨V', v1, v2, v3, v4, v5⟩, q9⟩, hl, hc, hs⟩ := hq
  refine ⟨L, ⟨q1, q2, q3, q4, q5, q6, q7, ⟨V'.cls, v3, V', v1, rfl, by rw [v4, e, hlen], K4, fun i hi => ?_, fun i hi => ?_⟩, q9⟩, hl, hc, by rw [hs, e]⟩
  · have hi' : i < cs.length := by omega
    rw [v5 i (by omega), hcv i hi']; simp [List.getD_eq_getElem?_getD, hi']
  · have hi' : i < cs.length := by omega
    simp only [List.getD_eq_getElem?_getD, List.getElem?_map, List.getElem?_eq_getElem hi', Option.map_some, Option.getD_some]
    exact fits_lo8 _
end StrChars.Road
namespace StrChars.Road
open Jvm Sem ClassFile Op Lib Jvm.Stand Jvm.Free Jvm.Free.XT
/-- WHAT COMES BACK, in the writer's own shape -/
def QV (Z : State) (x : Addr) (N : Int32) (bs : List Int32) (h : Heap) (n0 : Nat) (v : Option Value) (h' : Heap) (L : List Loc) : Prop := v = none ∧ RoadKit.Fr n0 L ∧ RoadKit.Keep h h' [x] ∧ RoadKit.Exa Z h' x ST ∧ RoadKit.Fld Z h' x ST "coder" "B" (.int 0) ∧
  ∃ (t : Addr) (kb : ClassId), n0 ≤ t ∧ h.size ≤ t ∧ ¬ t = x ∧ RoadKit.Fld Z h' x ST "value" "[B" (.ref t) ∧ RoadKit.Arv Z h' t kb .byte N (bs.map Value.int) (.int 0)
/-- **new String(chars) AT A CALL, FOR THE WRITER**: a char[] of n known ints, each 0 to 255 -/
theorem backV {p : Program} {l : Launch} {e : Env} {R : Room} {s : State} {args : Array Value} {below : List Frame} {len W : Nat} {Z : State} {a0 : Array Value} {h : Heap} (hZ : Z.Warmed39 s.vm) (hw : ∀ d ∈ words, d.before a0 Z = true) {kI : Nat} (wi : (Jvm.Cond.instantiable ST kI).before a0 Z = true)
    {x b : Addr} {kC : ClassId} {cs bs : List Int32} {d v0 c0 : Value} {z N : Int32} {n n0 : Nat} (hx0 : n0 ≤ x) (hh0 : n0 ≤ h.size) (E : RoadKit.Exa Z h x ST) (V : RoadKit.Fld Z h x ST "value" "[B" v0) (C : RoadKit.Fld Z h x ST "coder" "B" c0) (K : RoadKit.Arv Z h b kC .char N (cs.map Value.int) d) (S : RoadKit.Sta Z h ST "COMPACT_STRINGS" "Z" (.int z)) (hz : ¬ z = 0)
    (hn : cs.length = n) (hN : N = Int32.ofNat n) (l0 : 0 < n) (l2 : n ≤ 4000) (hp : ∀ c ∈ cs, ¬ c < 0 ∧ ¬ (255 : Int32) < c) (hb : bs = cs.map (fun c => c.toInt8.toInt32)) (hfr : 4 ≤ R.frames) (hlo : W + 65 ≤ R.locals) :
    Back l R p e below s args (⟨"java/lang/String", "<init>", "([C)V"⟩ : MethodName) len W (fun P a => a = #[.ref x, .ref b] ∧ P.U.heap = h ∧ P.cells + 1 ≤ R.cells ∧ P.slots + n ≤ R.slots)
      (fun P _ v B => ∃ L, QV Z x N bs h n0 v B.U.heap L ∧ B.locs = P.locs ++ L ∧ B.cells = P.cells + 1 ∧ B.slots = P.slots + n) := by
  subst hn hN hb
  refine Back.mono (backArv hZ hw wi E V C K S hz (n32 (by omega)) l0 (by omega) (fun c hc => (hp c hc).2) hfr hlo) (fun P a hp => hp) (fun P a v B hp hq => ?_)
  obtain ⟨L, ⟨q1, q2, q3, q4, q5, q6, q7, ⟨kb, v1, v2⟩, q9⟩, hl, hc, hs⟩ := hq
  exact ⟨L, ⟨q1, fun y hy => by rw [q2 y hy]; exact hx0, q3, q5, q7, h.size, kb, hh0, Nat.le_refl _, Nat.ne_of_gt E.lt, q6, by rw [List.map_map]; exact v2⟩, hl, hc, hs⟩
end StrChars.Road
end Jvm.Pilot.@@N@@
namespace Jvm.Pilot.@@N@@
open Jvm Jvm.ClassFile Sem Op Lib Jvm.Free Jvm.Stand Jvm.LawKit Jvm.RoadKit Bundle Jvm.Pilot.@@N@@.Jvm.D
/-- what is known of the String constant "" of java/lang/String's own pool: not loaded since the start, or loaded: an empty String -/
def Em (Z : State) (vm : Vm) (h : Heap) : Prop := IB Z vm [] ∨ ∃ (a b : Addr) (k : ClassId), Lit (Z.setVm vm) "java/lang/String" 7 a ∧ Exa Z h a "java/lang/String" ∧ Fld Z h a "java/lang/String" "coder" "B" (.int (0 : Int32)) ∧ Fld Z h a "java/lang/String" "value" "[B" (.ref b) ∧ Arv Z h b k .byte (0 : Int32) (own_bs []) (.int (0 : Int32))
theorem Em.keep {Z : State} {vm : Vm} {h h' : Heap} (M : Em Z vm h) (K : Keep h h' []) : Em Z vm h' := by
  rcases M with I | ⟨a, b, k, L, E, F, G, A⟩
  · exact Or.inl I
  · exact Or.inr ⟨a, b, k, L, E.keep K, F.keep K nin0, G.keep K nin0, A.keep K nin0⟩
theorem Em.keepO {Z : State} {vm : Vm} {h h' : Heap} {x : Addr} {C : String} {n : Nat} {a0 : Array Value} (M : Em Z vm h) (K : Keep h h' [x]) (X : Exa Z h x C) (w : (Cond.instantiable C n).before a0 Z = true) (hC : C ≠ "java/lang/String") : Em Z vm h' := by
  rcases M with I | ⟨a, b, k, L, E, F, G, A⟩
  · exact Or.inl I
  · have q1 : a ≠ x := Ne.symm (X.ne E hC)
    have q2 : b ≠ x := Ne.symm (X.neArv A w)
    exact Or.inr ⟨a, b, k, L, E.keep K, F.keep K (ninS q1 nin0), G.keep K (ninS q1 nin0), A.keep K (ninS q2 nin0)⟩
theorem Em.warm {Z s : State} {vm vm' : Vm} {h : Heap} (M : Em Z vm h) (hW : (s.setVm vm).WarmedH vm') : Em Z vm' h := by
  rcases M with I | ⟨a, b, k, L, r⟩
  · refine Or.inl ?_
    obtain ⟨more, q1, q2⟩ := I
    exact ⟨more, hW.interned_eq.trans q1, q2⟩
  · have L' : Lit (s.setVm vm) "java/lang/String" 7 a := L
    exact Or.inr ⟨a, b, k, L'.stays hW.wide, r⟩
theorem own_emR {Z T : State} {h : Heap} {fs : List Frame} (e : T.heap = h) (q : Em Z T.vm h) : Em Z (T.setFrames fs).vm (T.setFrames fs).heap := by
  show Em Z T.vm T.heap
  rw [e]; exact q
theorem own_backOfE {l : Launch} {R : Room} {p : Program} {e : Env} {below : List Frame} {s Z : State} {args a0 : Array Value} {h : Heap} {y : MethodName} {bytes : ByteArray} {maxL : Nat} {ret : Option FieldType} {rm : Room} {len W : Nat} {as' : Array Value} {Q : Option Value → Heap → List Loc → Prop}
    (hM : MetFree l y (head1 [Jvm.Cond.code y bytes maxL ret] rm) (fun a U => a = as' ∧ Z.Warmed39 U.vm ∧ U.heap = h ∧ Em Z U.vm h) (fun _ _ _ _ _ => True) (fun _ U o U' => ∃ v L, o = .returned v ∧ Q v U'.heap L ∧ ReturnedEndW U o U' L rm.cells rm.slots ∧ Em Z U'.vm U'.heap))
    (hZ : Z.Warmed39 s.vm) (wc : (Jvm.Cond.code y bytes maxL ret).before a0 Z = true) (wz : (Jvm.Cond.initialized y.cls).before a0 Z = true) (hf : rm.frames + 1 ≤ R.frames) (hl : W + (maxL + 11) + rm.locals ≤ R.locals) :
    BackS l R p e below s args y len W (fun A a => a = as' ∧ A.U.heap = h ∧ A.cells + rm.cells ≤ R.cells ∧ A.slots + rm.slots ≤ R.slots ∧ Em Z A.U.vm h)
      (fun A _ v B => ∃ L, (Q v B.U.heap L ∧ Em Z B.U.vm B.U.heap) ∧ B.locs = A.locs ++ L ∧ B.cells = A.cells + rm.cells ∧ B.slots = A.slots + rm.slots) :=
  BackS.of_freeW (bytes := bytes) (maxL := maxL) (ret := ret) (E := fun _ _ o t L k n => k = rm.cells ∧ n = rm.slots ∧ ∃ v, o = .returned v ∧ Q v t.heap L ∧ Em Z t.vm t.heap) hM hf hl
    (fun m meth c A a Y hp => have hU : Z.Warmed39 A.U.vm := wtrans hZ Y.warmed
      ⟨by show (Jvm.Cond.and _ .tt).before a A.U = true; rw [Cond.before_and, mv hU wc]; rfl, mv hU wc, mv hU wz, hp.2.2.1, hp.2.2.2.1⟩)
    (fun m meth c A a g mk Y hp => ⟨hp.1, wtrans hZ Y.warmed, hp.2.1, hp.2.2.2.2⟩) (fun _ _ _ _ _ _ _ _ _ => trivial)
    (fun _ _ _ _ ⟨v, L, h1, h2, h3, h4⟩ => ⟨L, _, _, h3, rfl, rfl, v, h1, h2, h4⟩)
    (fun m meth c A a g mk v t L k n Y hp _ _ ⟨e1, e2, v', e3, e4⟩ => by cases e3; subst e1 e2; exact ⟨L, e4, rfl, rfl, rfl⟩)
theorem own_up {cs : List Int32} (h : ∀ c ∈ cs, ¬ c < 0 ∧ ¬ (255 : Int32) < c) : ∀ c ∈ cs, ¬ c < 0 ∧ ¬ (65535 : Int32) < c := fun c hc => ⟨(h c hc).1, fun q => (h c hc).2 (by rw [Int32.lt_iff_toInt_lt] at q ⊢; have e1 : (65535 : Int32).toInt = 65535 := rfl; have e2 : (255 : Int32).toInt = 255 := rfl; omega)⟩
theorem own_rng {c : Int32} (h : ¬ c < 0 ∧ ¬ (255 : Int32) < c) : 0 ≤ c.toInt ∧ c.toInt ≤ 255 := by
  have e1 : (0 : Int32).toInt = 0 := rfl
  have e2 : (255 : Int32).toInt = 255 := rfl
  rw [Int32.lt_iff_toInt_lt, Int32.lt_iff_toInt_lt] at h; omega
theorem own_i2c {c : Int32} (h : ¬ c < 0 ∧ ¬ (255 : Int32) < c) : c.toUInt32.toUInt16.toUInt32.toInt32 = c := by
  have h1 := own_rng h
  have h2 := c_i2c c
  exact Int32.toInt_inj.mp (by omega)
theorem own_len3 (x : Int32) : (x &&& (3 : Int32)) % (3 : Int32) = (0 : Int32) ∨ (x &&& (3 : Int32)) % (3 : Int32) = (1 : Int32) ∨ (x &&& (3 : Int32)) % (3 : Int32) = (2 : Int32) := by
  have h1 := c_and x 3 (by decide)
  have e3 : (3 : Int32).toInt = 3 := rfl
  have e0 : (0 : Int32).toInt = 0 := rfl
  have e1 : (1 : Int32).toInt = 1 := rfl
  have e2 : (2 : Int32).toInt = 2 := rfl
  have h2 := (c_irem (x &&& 3) 3 3 rfl).1 (by omega)
  rw [← Int32.toInt_inj, ← Int32.toInt_inj, ← Int32.toInt_inj]
  omega
theorem own_xor255 (a b : Int32) : ¬ ((a &&& (255 : Int32)) ^^^ (b &&& (255 : Int32))) < 0 ∧ ¬ (255 : Int32) < ((a &&& (255 : Int32)) ^^^ (b &&& (255 : Int32))) := by
  have e : (a &&& (255 : Int32)) ^^^ (b &&& (255 : Int32)) = (a ^^^ b) &&& (255 : Int32) := by
    apply Int32.toBitVec_inj.mp
    simp only [Int32.toBitVec_xor, Int32.toBitVec_and]
    ext i hi
    simp only [BitVec.getElem_xor, BitVec.getElem_and]
    cases a.toBitVec[i] <;> cases b.toBitVec[i] <;> simp
  rw [e]; exact own_b255 _
theorem own_xor0 (a : Int32) : ¬ ((a &&& (255 : Int32)) ^^^ (0 : Int32)) < 0 ∧ ¬ (255 : Int32) < ((a &&& (255 : Int32)) ^^^ (0 : Int32)) := by
  have e : (a &&& (255 : Int32)) ^^^ (0 : Int32) = a &&& (255 : Int32) := by simp
  rw [e]; exact own_b255 _
def own_cs (len c0 c1 : Int32) : List Int32 := if len = 0 then [] else if len = 1 then [c0] else [c0, c1]
def own_at (cs : List Int32) (i : Nat) : Int32 := (cs.getD i 0).toInt8.toInt32
def own_mis (cs ds : List Int32) (n : Int32) : Int32 := if n = (0 : Int32) then (-1 : Int32) else if own_at cs 0 = own_at ds 0 then (if n = (1 : Int32) then (-1 : Int32) else if own_at cs 1 = own_at ds 1 then (-1 : Int32) else (1 : Int32)) else (0 : Int32)
def own_cmp (cs ds : List Int32) : Int32 := if own_mis cs ds (Int32.ofNat (min cs.length ds.length)) < (0 : Int32) then Int32.ofNat cs.length - Int32.ofNat ds.length else if own_mis cs ds (Int32.ofNat (min cs.length ds.length)) = (0 : Int32) then cs.getD 0 0 - ds.getD 0 0 else cs.getD 1 0 - ds.getD 1 0
abbrev own_ahead (q1 q2 : Int64) (cs ds : List Int32) : Prop := (¬ q1 = q2 ∧ q1 < q2) ∨ (q1 = q2 ∧ own_cmp cs ds < (0 : Int32))
abbrev own_less (l a0 a1 m b0 b1 : Int32) : Prop := (l = (0 : Int32) ∧ (0 : Int32) < m) ∨ (¬ l = (0 : Int32) ∧ (¬ m = (0 : Int32) ∧ ((¬ a0 = b0 ∧ a0 < b0) ∨ (a0 = b0 ∧ ((l = (1 : Int32) ∧ m = (2 : Int32)) ∨ (¬ l = (1 : Int32) ∧ (¬ m = (1 : Int32) ∧ (¬ a1 = b1 ∧ a1 < b1))))))))
theorem own_le7 {n : Int32} (h : n = (0 : Int32) ∨ n = (1 : Int32) ∨ n = (2 : Int32)) : ¬ (7 : Int32) < n := by rcases h with rfl | rfl | rfl <;> decide
theorem own_ofint {i n : Nat} (h : n ≤ 4000) (hi : i ≤ n) : (Int32.ofNat i).toInt = i := Int32.toInt_ofNat_small (by omega)
theorem own_oflt {i n : Nat} (h : n ≤ 4000) (hi : i < n) : Int32.ofNat i < Int32.ofNat n := by rw [Int32.lt_iff_toInt_lt, own_ofint h (Nat.le_of_lt hi), own_ofint h (Nat.le_refl _)]; omega
theorem own_ofnn {i n : Nat} (h : n ≤ 4000) (hi : i < n) : ¬ Int32.ofNat i < (0 : Int32) := by rw [Int32.lt_iff_toInt_lt, own_ofint h (Nat.le_of_lt hi)]; have e0 : (0 : Int32).toInt = 0 := rfl; omega
theorem own_clamp {i n : Nat} (h : n ≤ 4000) (hi : i < n) : (Int32.ofNat i).toNatClampNeg = i := by
  show (Int32.ofNat i).toInt.toNat = i
  rw [own_ofint h (Nat.le_of_lt hi)]; rfl
theorem own_bsD {cs : List Int32} {i : Nat} {d : Value} (h : i < cs.length) : (own_bs cs).getD i d = .int (own_at cs i) := by
  simp [own_bs, own_at, List.getD, List.getElem?_map, List.getElem?_eq_getElem h]
theorem own_fin256 : ∀ n : Fin 256, (((Int32.ofNat n.val).toInt8.toInt32) &&& (255 : Int32)).toUInt32.toUInt16.toUInt32.toInt32 = Int32.ofNat n.val := by decide +kernel
theorem own_fin256' : ∀ n : Fin 256, (Int32.ofNat n.val).toUInt32.toUInt16.toUInt32.toInt32 = Int32.ofNat n.val := by decide +kernel
theorem own_isfin {c : Int32} (h : ¬ c < 0 ∧ ¬ (255 : Int32) < c) : ∃ n : Fin 256, c = Int32.ofNat n.val := by
  have h1 := own_rng h
  refine ⟨⟨c.toInt.toNat, by omega⟩, Int32.toInt_inj.mp ?_⟩
  rw [Int32.toInt_ofNat_small (by show c.toInt.toNat < _; omega)]
  show c.toInt = ((c.toInt.toNat : Nat) : Int)
  omega
theorem own_inD {cs : List Int32} {j : Nat} (hb : ∀ c ∈ cs, ¬ c < 0 ∧ ¬ (255 : Int32) < c) (hj : j < cs.length) : ¬ cs.getD j 0 < 0 ∧ ¬ (255 : Int32) < cs.getD j 0 := by
  have e : cs.getD j 0 = cs[j] := by simp [List.getD, List.getElem?_eq_getElem hj]
  rw [e]; exact hb _ (List.getElem_mem hj)
theorem own_back {c : Int32} (h : ¬ c < 0 ∧ ¬ (255 : Int32) < c) : (c.toInt8.toInt32 &&& (255 : Int32)).toUInt32.toUInt16.toUInt32.toInt32 = c := by
  obtain ⟨n, rfl⟩ := own_isfin h; exact own_fin256 n
theorem own_inj {c d : Int32} (h : ¬ c < 0 ∧ ¬ (255 : Int32) < c) (h' : ¬ d < 0 ∧ ¬ (255 : Int32) < d) (e : c.toInt8.toInt32 = d.toInt8.toInt32) : c = d := by
  rw [← own_back h, e, own_back h']
theorem own_getc {cs : List Int32} {j : Nat} (hb : ∀ c ∈ cs, ¬ c < 0 ∧ ¬ (255 : Int32) < c) (hj : j < cs.length) : nar .char ((own_at cs j &&& (255 : Int32)).toUInt32.toUInt16.toUInt32.toInt32) = cs.getD j 0 := by
  unfold own_at
  rw [own_back (own_inD hb hj)]
  exact own_i2c (own_inD hb hj)
theorem own_minlen {cs ds : List Int32} (h : cs.length ≤ 2) (h' : ds.length ≤ 2) : (if Int32.ofNat ds.length < Int32.ofNat cs.length then Int32.ofNat ds.length else Int32.ofNat cs.length) = Int32.ofNat (min cs.length ds.length) := by
  have e1 := own_ofint (i := cs.length) (n := 2) (by omega) h
  have e2 := own_ofint (i := ds.length) (n := 2) (by omega) h'
  split
  · rename_i q; rw [Int32.lt_iff_toInt_lt, e1, e2] at q; rw [Nat.min_eq_right (by omega)]
  · rename_i q; rw [Int32.lt_iff_toInt_lt, e1, e2] at q; rw [Nat.min_eq_left (by omega)]
theorem own_mprops {cs ds : List Int32} {b : Int32} (h : cs.length ≤ 2) (h' : ds.length ≤ 2) (hb : b = Int32.ofNat (min cs.length ds.length)) : (b = (0 : Int32) ∨ b = (1 : Int32) ∨ b = (2 : Int32)) ∧ (¬ b = (0 : Int32) → 0 < cs.length ∧ 0 < ds.length) ∧ (b = (2 : Int32) → 1 < cs.length ∧ 1 < ds.length) := by
  subst hb
  have hm : min cs.length ds.length = 0 ∨ min cs.length ds.length = 1 ∨ min cs.length ds.length = 2 := by omega
  rcases hm with e | e | e <;> rw [e]
  · exact ⟨Or.inl rfl, fun q => absurd rfl q, fun q => absurd q (by decide)⟩
  · exact ⟨Or.inr (Or.inl rfl), fun _ => by omega, fun q => absurd q (by decide)⟩
  · exact ⟨Or.inr (Or.inr rfl), fun _ => by omega, fun _ => by omega⟩
theorem own_mis_val {cs ds : List Int32} {n : Int32} : own_mis cs ds n = (-1 : Int32) ∨ own_mis cs ds n = (0 : Int32) ∨ own_mis cs ds n = (1 : Int32) := by
  unfold own_mis; (repeat' split) <;> decide
theorem own_in0 {cs ds : List Int32} (h : cs.length ≤ 2) (h' : ds.length ≤ 2) (q : own_mis cs ds (Int32.ofNat (min cs.length ds.length)) = (0 : Int32)) : 0 < cs.length ∧ 0 < ds.length := by
  refine (own_mprops h h' rfl).2.1 (fun z => ?_)
  unfold own_mis at q; rw [if_pos z] at q; exact absurd q (by decide)
theorem own_in1 {cs ds : List Int32} (h : cs.length ≤ 2) (h' : ds.length ≤ 2) (q : own_mis cs ds (Int32.ofNat (min cs.length ds.length)) = (1 : Int32)) : 1 < cs.length ∧ 1 < ds.length := by
  have m := own_mprops h h' rfl
  refine m.2.2 ?_
  rcases m.1 with z | z | z
  · unfold own_mis at q; rw [if_pos z] at q; exact absurd q (by decide)
  · unfold own_mis at q; rw [z] at q; revert q; (repeat' split) <;> intro q <;> first | exact absurd q (by decide) | exact absurd rfl ‹¬ (1 : Int32) = 1›
  · exact z
theorem own_one {r m : Int32} (h : m = (-1 : Int32) ∨ m = (0 : Int32) ∨ m = (1 : Int32)) (e : r = m) (h1 : ¬ r < (0 : Int32)) (h0 : ¬ r = (0 : Int32)) : r = (1 : Int32) := by
  subst e; rcases h with z | z | z
  · subst z; exact absurd (by decide) h1
  · exact absurd z h0
  · exact z
theorem own_cmpA {cs ds : List Int32} {r : Int32} (e : r = own_mis cs ds (Int32.ofNat (min cs.length ds.length))) (h : r < (0 : Int32)) : Int32.ofNat cs.length - Int32.ofNat ds.length = own_cmp cs ds := by subst e; exact (if_pos h).symm
theorem own_cmpB {cs ds : List Int32} (e : (0 : Int32) = own_mis cs ds (Int32.ofNat (min cs.length ds.length))) : cs.getD 0 0 - ds.getD 0 0 = own_cmp cs ds := by
  unfold own_cmp; rw [← e]; rfl
theorem own_cmpC {cs ds : List Int32} (e : (1 : Int32) = own_mis cs ds (Int32.ofNat (min cs.length ds.length))) : cs.getD 1 0 - ds.getD 1 0 = own_cmp cs ds := by
  unfold own_cmp; rw [← e]; rfl
theorem own_subneg {a b : Int32} (ha : ¬ a < 0 ∧ ¬ (255 : Int32) < a) (hb : ¬ b < 0 ∧ ¬ (255 : Int32) < b) : a - b < (0 : Int32) ↔ (¬ a = b ∧ a < b) := by
  have h1 := own_rng ha
  have h2 := own_rng hb
  have e0 : (0 : Int32).toInt = 0 := rfl
  have e : (a - b).toInt = a.toInt - b.toInt := by
    rw [Int32.toInt_sub]; exact Int.bmod_eq_of_le (by omega) (by omega)
  rw [Int32.lt_iff_toInt_lt, Int32.lt_iff_toInt_lt, ← Int32.toInt_inj, e]
  omega
theorem own_cmp11 {a b : Int32} (ha : ¬ a < 0 ∧ ¬ (255 : Int32) < a) (hb : ¬ b < 0 ∧ ¬ (255 : Int32) < b) {cs ds : List Int32} (h0 : 0 < min cs.length ds.length) (hs : min cs.length ds.length ≤ 2) (e1 : cs.getD 0 0 = a) (e2 : ds.getD 0 0 = b) (hne : ¬ a = b) : own_cmp cs ds < (0 : Int32) ↔ (¬ a = b ∧ a < b) := by
  have hn : ¬ Int32.ofNat (min cs.length ds.length) = (0 : Int32) := by
    intro q
    have := congrArg Int32.toInt q
    rw [Int32.toInt_ofNat_small (by omega)] at this
    have e0 : (0 : Int32).toInt = 0 := rfl
    omega
  have hm : own_mis cs ds (Int32.ofNat (min cs.length ds.length)) = (0 : Int32) := by
    unfold own_mis; rw [if_neg hn, if_neg]
    unfold own_at; rw [e1, e2]; exact fun z => hne (own_inj ha hb z)
  rw [← own_cmpB hm.symm, e1, e2]
  exact own_subneg ha hb
theorem own_fin3 {l a0 a1 m b0 b1 : Int32} (hl : l = (0 : Int32) ∨ l = (1 : Int32) ∨ l = (2 : Int32)) (hm : m = (0 : Int32) ∨ m = (1 : Int32) ∨ m = (2 : Int32)) (ha0 : ¬ a0 < 0 ∧ ¬ (255 : Int32) < a0) (ha1 : ¬ a1 < 0 ∧ ¬ (255 : Int32) < a1) (hb0 : ¬ b0 < 0 ∧ ¬ (255 : Int32) < b0) (hb1 : ¬ b1 < 0 ∧ ¬ (255 : Int32) < b1) : own_cmp (own_cs l a0 a1) (own_cs m b0 b1) < (0 : Int32) ↔ own_less l a0 a1 m b0 b1 := by
  by_cases e0 : a0 = b0
  · subst e0
    by_cases e1 : a1 = b1
    · subst e1
      rcases hl with rfl | rfl | rfl <;> rcases hm with rfl | rfl | rfl <;> simp [own_cs, own_cmp, own_mis, own_less, own_at]
    · have n1 : ¬ a1.toInt8.toInt32 = b1.toInt8.toInt32 := fun z => e1 (own_inj ha1 hb1 z)
      have s1 := own_subneg ha1 hb1
      rcases hl with rfl | rfl | rfl <;> rcases hm with rfl | rfl | rfl <;> simp [own_cs, own_cmp, own_mis, own_less, own_at, n1, e1, s1]
  · have n0 : ¬ a0.toInt8.toInt32 = b0.toInt8.toInt32 := fun z => e0 (own_inj ha0 hb0 z)
    have s0 := own_subneg ha0 hb0
    rcases hl with rfl | rfl | rfl <;> rcases hm with rfl | rfl | rfl <;> simp [own_cs, own_cmp, own_mis, own_less, own_at, n0, e0, s0]
theorem d_jdk_30_method_1_0 : decode jdk_30_method_1_code 0 = .ok (.aload_n 0, 1) := by decide +kernel
theorem d_jdk_30_method_1_1 : decode jdk_30_method_1_code 1 = .ok (.invokespecial 1, 3) := by decide +kernel
theorem d_jdk_30_method_1_4 : decode jdk_30_method_1_code 4 = .ok (.return_, 1) := by decide +kernel
theorem pn_0 : plainName "java/lang/Record" = true := by first | (simp [plainName, overriddenIn]; done) | decide +kernel
theorem d_jdk_42_method_149_0 : decode jdk_42_method_149_code 0 = .ok (.aload_n 0, 1) := by decide +kernel
theorem d_jdk_42_method_149_1 : decode jdk_42_method_149_code 1 = .ok (.invokespecial 1, 3) := by decide +kernel
theorem d_jdk_42_method_149_4 : decode jdk_42_method_149_code 4 = .ok (.iload_n 3, 1) := by decide +kernel
theorem d_jdk_42_method_149_5 : decode jdk_42_method_149_code 5 = .ok (.ifCond .ne 22, 3) := by decide +kernel
theorem d_jdk_42_method_149_8 : decode jdk_42_method_149_code 8 = .ok (.aload_n 0, 1) := by decide +kernel
theorem d_jdk_42_method_149_9 : decode jdk_42_method_149_code 9 = .ok (.ldc 7, 2) := by decide +kernel
theorem d_jdk_42_method_149_11 : decode jdk_42_method_149_code 11 = .ok (.getfield 9, 3) := by decide +kernel
theorem d_jdk_42_method_149_14 : decode jdk_42_method_149_code 14 = .ok (.putfield 9, 3) := by decide +kernel
theorem d_jdk_42_method_149_17 : decode jdk_42_method_149_code 17 = .ok (.aload_n 0, 1) := by decide +kernel
theorem d_jdk_42_method_149_18 : decode jdk_42_method_149_code 18 = .ok (.ldc 7, 2) := by decide +kernel
theorem d_jdk_42_method_149_20 : decode jdk_42_method_149_code 20 = .ok (.getfield 15, 3) := by decide +kernel
theorem d_jdk_42_method_149_23 : decode jdk_42_method_149_code 23 = .ok (.putfield 15, 3) := by decide +kernel
theorem d_jdk_42_method_149_26 : decode jdk_42_method_149_code 26 = .ok (.return_, 1) := by decide +kernel
theorem pn_1 : plainName "java/lang/String" = true := by first | (simp [plainName, overriddenIn]; done) | decide +kernel
theorem d_jdk_42_method_3_0 : decode jdk_42_method_3_code 0 = .ok (.aload_n 0, 1) := by decide +kernel
theorem d_jdk_42_method_3_1 : decode jdk_42_method_3_code 1 = .ok (.aload_n 1, 1) := by decide +kernel
theorem d_jdk_42_method_3_2 : decode jdk_42_method_3_code 2 = .ok (.iconst 0, 1) := by decide +kernel
theorem d_jdk_42_method_3_3 : decode jdk_42_method_3_code 3 = .ok (.aload_n 1, 1) := by decide +kernel
theorem d_jdk_42_method_3_4 : decode jdk_42_method_3_code 4 = .ok (.arraylength, 1) := by decide +kernel
theorem d_jdk_42_method_3_5 : decode jdk_42_method_3_code 5 = .ok (.aconst_null, 1) := by decide +kernel
theorem d_jdk_42_method_3_6 : decode jdk_42_method_3_code 6 = .ok (.invokespecial 27, 3) := by decide +kernel
theorem pd_0 : parseMethodDescriptor "([CIILjava/lang/Void;)V" = some ⟨[(.array .char), .int, .int, (.object "java/lang/Void")], none⟩ := by decide +kernel
theorem d_jdk_42_method_3_9 : decode jdk_42_method_3_code 9 = .ok (.return_, 1) := by decide +kernel
theorem d_jdk_43_method_3_0 : decode jdk_43_method_3_code 0 = .ok (.iload_n 0, 1) := by decide +kernel
theorem d_jdk_43_method_3_1 : decode jdk_43_method_3_code 1 = .ok (.sipush 255, 3) := by decide +kernel
theorem d_jdk_43_method_3_4 : decode jdk_43_method_3_code 4 = .ok (.if_icmp .gt 7, 3) := by decide +kernel
theorem d_jdk_43_method_3_7 : decode jdk_43_method_3_code 7 = .ok (.iconst 1, 1) := by decide +kernel
theorem d_jdk_43_method_3_8 : decode jdk_43_method_3_code 8 = .ok (.goto 4, 3) := by decide +kernel
theorem d_jdk_43_method_3_12 : decode jdk_43_method_3_code 12 = .ok (.ireturn, 1) := by decide +kernel
theorem pn_2 : plainName "java/lang/StringLatin1" = true := by first | (simp [plainName, overriddenIn]; done) | decide +kernel
theorem d_jdk_43_method_46_0 : decode jdk_43_method_46_code 0 = .ok (.iconst 1, 1) := by decide +kernel
theorem d_jdk_43_method_46_1 : decode jdk_43_method_46_code 1 = .ok (.newarray .byte, 2) := by decide +kernel
theorem d_jdk_43_method_46_3 : decode jdk_43_method_46_code 3 = .ok (.dup, 1) := by decide +kernel
theorem d_jdk_43_method_46_4 : decode jdk_43_method_46_code 4 = .ok (.iconst 0, 1) := by decide +kernel
theorem d_jdk_43_method_46_5 : decode jdk_43_method_46_code 5 = .ok (.iload_n 0, 1) := by decide +kernel
theorem d_jdk_43_method_46_6 : decode jdk_43_method_46_code 6 = .ok (.i2b, 1) := by decide +kernel
theorem d_jdk_43_method_46_7 : decode jdk_43_method_46_code 7 = .ok (.bastore, 1) := by decide +kernel
theorem d_jdk_43_method_46_8 : decode jdk_43_method_46_code 8 = .ok (.areturn, 1) := by decide +kernel
theorem d_jdk_42_method_151_0 : decode jdk_42_method_151_code 0 = .ok (.aload_n 0, 1) := by decide +kernel
theorem d_jdk_42_method_151_1 : decode jdk_42_method_151_code 1 = .ok (.invokespecial 1, 3) := by decide +kernel
theorem d_jdk_42_method_151_4 : decode jdk_42_method_151_code 4 = .ok (.aload_n 0, 1) := by decide +kernel
theorem d_jdk_42_method_151_5 : decode jdk_42_method_151_code 5 = .ok (.aload_n 1, 1) := by decide +kernel
theorem d_jdk_42_method_151_6 : decode jdk_42_method_151_code 6 = .ok (.putfield 9, 3) := by decide +kernel
theorem d_jdk_42_method_151_9 : decode jdk_42_method_151_code 9 = .ok (.aload_n 0, 1) := by decide +kernel
theorem d_jdk_42_method_151_10 : decode jdk_42_method_151_code 10 = .ok (.iload_n 2, 1) := by decide +kernel
theorem d_jdk_42_method_151_11 : decode jdk_42_method_151_code 11 = .ok (.putfield 15, 3) := by decide +kernel
theorem d_jdk_42_method_151_14 : decode jdk_42_method_151_code 14 = .ok (.return_, 1) := by decide +kernel
theorem d_jdk_42_method_139_0 : decode jdk_42_method_139_code 0 = .ok (.getstatic 38, 3) := by decide +kernel
theorem d_jdk_42_method_139_3 : decode jdk_42_method_139_code 3 = .ok (.ifCond .eq 23, 3) := by decide +kernel
theorem d_jdk_42_method_139_6 : decode jdk_42_method_139_code 6 = .ok (.iload_n 0, 1) := by decide +kernel
theorem d_jdk_42_method_139_7 : decode jdk_42_method_139_code 7 = .ok (.invokestatic 1015, 3) := by decide +kernel
theorem pd_1 : parseMethodDescriptor "(C)Z" = some ⟨[.char], some .boolean⟩ := by decide +kernel
theorem d_jdk_42_method_139_10 : decode jdk_42_method_139_code 10 = .ok (.ifCond .eq 16, 3) := by decide +kernel
theorem d_jdk_42_method_139_13 : decode jdk_42_method_139_code 13 = .ok (.new 10, 3) := by decide +kernel
theorem d_jdk_42_method_139_16 : decode jdk_42_method_139_code 16 = .ok (.dup, 1) := by decide +kernel
theorem d_jdk_42_method_139_17 : decode jdk_42_method_139_code 17 = .ok (.iload_n 0, 1) := by decide +kernel
theorem d_jdk_42_method_139_18 : decode jdk_42_method_139_code 18 = .ok (.invokestatic 1018, 3) := by decide +kernel
theorem pd_2 : parseMethodDescriptor "(C)[B" = some ⟨[.char], some (.array .byte)⟩ := by decide +kernel
theorem d_jdk_42_method_139_21 : decode jdk_42_method_139_code 21 = .ok (.iconst 0, 1) := by decide +kernel
theorem d_jdk_42_method_139_22 : decode jdk_42_method_139_code 22 = .ok (.invokespecial 209, 3) := by decide +kernel
theorem pd_3 : parseMethodDescriptor "([BB)V" = some ⟨[(.array .byte), .byte], none⟩ := by decide +kernel
theorem d_jdk_42_method_139_25 : decode jdk_42_method_139_code 25 = .ok (.areturn, 1) := by decide +kernel
theorem d_jdk_29_method_69_0 : decode jdk_29_method_69_code 0 = .ok (.iload_n 0, 1) := by decide +kernel
theorem d_jdk_29_method_69_1 : decode jdk_29_method_69_code 1 = .ok (.iload_n 1, 1) := by decide +kernel
theorem d_jdk_29_method_69_2 : decode jdk_29_method_69_code 2 = .ok (.if_icmp .gt 7, 3) := by decide +kernel
theorem d_jdk_29_method_69_9 : decode jdk_29_method_69_code 9 = .ok (.iload_n 1, 1) := by decide +kernel
theorem d_jdk_29_method_69_10 : decode jdk_29_method_69_code 10 = .ok (.ireturn, 1) := by decide +kernel
theorem d_jdk_29_method_69_5 : decode jdk_29_method_69_code 5 = .ok (.iload_n 0, 1) := by decide +kernel
theorem d_jdk_29_method_69_6 : decode jdk_29_method_69_code 6 = .ok (.goto 4, 3) := by decide +kernel
theorem d_jdk_48_method_13_0 : decode jdk_48_method_13_code 0 = .ok (.iconst 0, 1) := by decide +kernel
theorem d_jdk_48_method_13_1 : decode jdk_48_method_13_code 1 = .ok (.istore_n 3, 1) := by decide +kernel
theorem d_jdk_48_method_13_2 : decode jdk_48_method_13_code 2 = .ok (.iload_n 2, 1) := by decide +kernel
theorem d_jdk_48_method_13_3 : decode jdk_48_method_13_code 3 = .ok (.bipush 7, 2) := by decide +kernel
theorem d_jdk_48_method_13_5 : decode jdk_48_method_13_code 5 = .ok (.if_icmp .le 44, 3) := by decide +kernel
theorem d_jdk_48_method_13_49 : decode jdk_48_method_13_code 49 = .ok (.iload_n 3, 1) := by decide +kernel
theorem d_jdk_48_method_13_50 : decode jdk_48_method_13_code 50 = .ok (.iload_n 2, 1) := by decide +kernel
theorem d_jdk_48_method_13_51 : decode jdk_48_method_13_code 51 = .ok (.if_icmp .ge 20, 3) := by decide +kernel
theorem d_jdk_48_method_13_71 : decode jdk_48_method_13_code 71 = .ok (.iconst (-1), 1) := by decide +kernel
theorem d_jdk_48_method_13_72 : decode jdk_48_method_13_code 72 = .ok (.ireturn, 1) := by decide +kernel
theorem d_jdk_48_method_13_54 : decode jdk_48_method_13_code 54 = .ok (.aload_n 0, 1) := by decide +kernel
theorem d_jdk_48_method_13_55 : decode jdk_48_method_13_code 55 = .ok (.iload_n 3, 1) := by decide +kernel
theorem d_jdk_48_method_13_56 : decode jdk_48_method_13_code 56 = .ok (.baload, 1) := by decide +kernel
theorem d_jdk_48_method_13_57 : decode jdk_48_method_13_code 57 = .ok (.aload_n 1, 1) := by decide +kernel
theorem d_jdk_48_method_13_58 : decode jdk_48_method_13_code 58 = .ok (.iload_n 3, 1) := by decide +kernel
theorem d_jdk_48_method_13_59 : decode jdk_48_method_13_code 59 = .ok (.baload, 1) := by decide +kernel
theorem d_jdk_48_method_13_60 : decode jdk_48_method_13_code 60 = .ok (.if_icmp .eq 5, 3) := by decide +kernel
theorem d_jdk_48_method_13_65 : decode jdk_48_method_13_code 65 = .ok (.iinc 3 1, 3) := by decide +kernel
theorem d_jdk_48_method_13_68 : decode jdk_48_method_13_code 68 = .ok (.goto (-19), 3) := by decide +kernel
theorem d_jdk_48_method_13_63 : decode jdk_48_method_13_code 63 = .ok (.iload_n 3, 1) := by decide +kernel
theorem d_jdk_48_method_13_64 : decode jdk_48_method_13_code 64 = .ok (.ireturn, 1) := by decide +kernel
theorem pn_3 : plainName "jdk/internal/util/ArraysSupport" = true := by first | (simp [plainName, overriddenIn]; done) | decide +kernel
theorem d_jdk_43_method_44_0 : decode jdk_43_method_44_code 0 = .ok (.aload_n 0, 1) := by decide +kernel
theorem d_jdk_43_method_44_1 : decode jdk_43_method_44_code 1 = .ok (.iload_n 1, 1) := by decide +kernel
theorem d_jdk_43_method_44_2 : decode jdk_43_method_44_code 2 = .ok (.baload, 1) := by decide +kernel
theorem d_jdk_43_method_44_3 : decode jdk_43_method_44_code 3 = .ok (.sipush 255, 3) := by decide +kernel
theorem d_jdk_43_method_44_6 : decode jdk_43_method_44_code 6 = .ok (.iand, 1) := by decide +kernel
theorem d_jdk_43_method_44_7 : decode jdk_43_method_44_code 7 = .ok (.i2c, 1) := by decide +kernel
theorem d_jdk_43_method_44_8 : decode jdk_43_method_44_code 8 = .ok (.ireturn, 1) := by decide +kernel
theorem d_jdk_43_method_15_0 : decode jdk_43_method_15_code 0 = .ok (.iload_n 2, 1) := by decide +kernel
theorem d_jdk_43_method_15_1 : decode jdk_43_method_15_code 1 = .ok (.iload_n 3, 1) := by decide +kernel
theorem d_jdk_43_method_15_2 : decode jdk_43_method_15_code 2 = .ok (.invokestatic 38, 3) := by decide +kernel
theorem pd_4 : parseMethodDescriptor "(II)I" = some ⟨[.int, .int], some .int⟩ := by decide +kernel
theorem d_jdk_43_method_15_5 : decode jdk_43_method_15_code 5 = .ok (.istore 4, 2) := by decide +kernel
theorem d_jdk_43_method_15_7 : decode jdk_43_method_15_code 7 = .ok (.aload_n 0, 1) := by decide +kernel
theorem d_jdk_43_method_15_8 : decode jdk_43_method_15_code 8 = .ok (.aload_n 1, 1) := by decide +kernel
theorem d_jdk_43_method_15_9 : decode jdk_43_method_15_code 9 = .ok (.iload 4, 2) := by decide +kernel
theorem d_jdk_43_method_15_11 : decode jdk_43_method_15_code 11 = .ok (.invokestatic 44, 3) := by decide +kernel
theorem pd_5 : parseMethodDescriptor "([B[BI)I" = some ⟨[(.array .byte), (.array .byte), .int], some .int⟩ := by decide +kernel
theorem d_jdk_43_method_15_14 : decode jdk_43_method_15_code 14 = .ok (.istore 5, 2) := by decide +kernel
theorem d_jdk_43_method_15_16 : decode jdk_43_method_15_code 16 = .ok (.iload 5, 2) := by decide +kernel
theorem d_jdk_43_method_15_18 : decode jdk_43_method_15_code 18 = .ok (.ifCond .ge 9, 3) := by decide +kernel
theorem d_jdk_43_method_15_21 : decode jdk_43_method_15_code 21 = .ok (.iload_n 2, 1) := by decide +kernel
theorem d_jdk_43_method_15_22 : decode jdk_43_method_15_code 22 = .ok (.iload_n 3, 1) := by decide +kernel
theorem d_jdk_43_method_15_23 : decode jdk_43_method_15_code 23 = .ok (.isub, 1) := by decide +kernel
theorem d_jdk_43_method_15_24 : decode jdk_43_method_15_code 24 = .ok (.goto 16, 3) := by decide +kernel
theorem d_jdk_43_method_15_40 : decode jdk_43_method_15_code 40 = .ok (.ireturn, 1) := by decide +kernel
theorem d_jdk_43_method_15_27 : decode jdk_43_method_15_code 27 = .ok (.aload_n 0, 1) := by decide +kernel
theorem d_jdk_43_method_15_28 : decode jdk_43_method_15_code 28 = .ok (.iload 5, 2) := by decide +kernel
theorem d_jdk_43_method_15_30 : decode jdk_43_method_15_code 30 = .ok (.invokestatic 50, 3) := by decide +kernel
theorem pd_6 : parseMethodDescriptor "([BI)C" = some ⟨[(.array .byte), .int], some .char⟩ := by decide +kernel
theorem d_jdk_43_method_15_33 : decode jdk_43_method_15_code 33 = .ok (.aload_n 1, 1) := by decide +kernel
theorem d_jdk_43_method_15_34 : decode jdk_43_method_15_code 34 = .ok (.iload 5, 2) := by decide +kernel
theorem d_jdk_43_method_15_36 : decode jdk_43_method_15_code 36 = .ok (.invokestatic 50, 3) := by decide +kernel
theorem d_jdk_43_method_15_39 : decode jdk_43_method_15_code 39 = .ok (.isub, 1) := by decide +kernel
theorem d_jdk_43_method_14_0 : decode jdk_43_method_14_code 0 = .ok (.aload_n 0, 1) := by decide +kernel
theorem d_jdk_43_method_14_1 : decode jdk_43_method_14_code 1 = .ok (.arraylength, 1) := by decide +kernel
theorem d_jdk_43_method_14_2 : decode jdk_43_method_14_code 2 = .ok (.istore_n 2, 1) := by decide +kernel
theorem d_jdk_43_method_14_3 : decode jdk_43_method_14_code 3 = .ok (.aload_n 1, 1) := by decide +kernel
theorem d_jdk_43_method_14_4 : decode jdk_43_method_14_code 4 = .ok (.arraylength, 1) := by decide +kernel
theorem d_jdk_43_method_14_5 : decode jdk_43_method_14_code 5 = .ok (.istore_n 3, 1) := by decide +kernel
theorem d_jdk_43_method_14_6 : decode jdk_43_method_14_code 6 = .ok (.aload_n 0, 1) := by decide +kernel
theorem d_jdk_43_method_14_7 : decode jdk_43_method_14_code 7 = .ok (.aload_n 1, 1) := by decide +kernel
theorem d_jdk_43_method_14_8 : decode jdk_43_method_14_code 8 = .ok (.iload_n 2, 1) := by decide +kernel
theorem d_jdk_43_method_14_9 : decode jdk_43_method_14_code 9 = .ok (.iload_n 3, 1) := by decide +kernel
theorem d_jdk_43_method_14_10 : decode jdk_43_method_14_code 10 = .ok (.invokestatic 34, 3) := by decide +kernel
theorem pd_7 : parseMethodDescriptor "([B[BII)I" = some ⟨[(.array .byte), (.array .byte), .int, .int], some .int⟩ := by decide +kernel
theorem d_jdk_43_method_14_13 : decode jdk_43_method_14_code 13 = .ok (.ireturn, 1) := by decide +kernel
theorem d_jdk_42_method_152_0 : decode jdk_42_method_152_code 0 = .ok (.getstatic 38, 3) := by decide +kernel
theorem d_jdk_42_method_152_3 : decode jdk_42_method_152_code 3 = .ok (.ifCond .eq 10, 3) := by decide +kernel
theorem d_jdk_42_method_152_6 : decode jdk_42_method_152_code 6 = .ok (.aload_n 0, 1) := by decide +kernel
theorem d_jdk_42_method_152_7 : decode jdk_42_method_152_code 7 = .ok (.getfield 15, 3) := by decide +kernel
theorem d_jdk_42_method_152_10 : decode jdk_42_method_152_code 10 = .ok (.goto 4, 3) := by decide +kernel
theorem d_jdk_42_method_152_14 : decode jdk_42_method_152_code 14 = .ok (.ireturn, 1) := by decide +kernel
theorem d_jdk_42_method_71_0 : decode jdk_42_method_71_code 0 = .ok (.aload_n 0, 1) := by decide +kernel
theorem d_jdk_42_method_71_1 : decode jdk_42_method_71_code 1 = .ok (.getfield 9, 3) := by decide +kernel
theorem d_jdk_42_method_71_4 : decode jdk_42_method_71_code 4 = .ok (.astore_n 2, 1) := by decide +kernel
theorem d_jdk_42_method_71_5 : decode jdk_42_method_71_code 5 = .ok (.aload_n 1, 1) := by decide +kernel
theorem d_jdk_42_method_71_6 : decode jdk_42_method_71_code 6 = .ok (.getfield 9, 3) := by decide +kernel
theorem d_jdk_42_method_71_9 : decode jdk_42_method_71_code 9 = .ok (.astore_n 3, 1) := by decide +kernel
theorem d_jdk_42_method_71_10 : decode jdk_42_method_71_code 10 = .ok (.aload_n 0, 1) := by decide +kernel
theorem d_jdk_42_method_71_11 : decode jdk_42_method_71_code 11 = .ok (.invokevirtual 335, 3) := by decide +kernel
theorem pd_8 : parseMethodDescriptor "()B" = some ⟨[], some .byte⟩ := by decide +kernel
theorem d_jdk_42_method_71_14 : decode jdk_42_method_71_code 14 = .ok (.istore 4, 2) := by decide +kernel
theorem d_jdk_42_method_71_16 : decode jdk_42_method_71_code 16 = .ok (.iload 4, 2) := by decide +kernel
theorem d_jdk_42_method_71_18 : decode jdk_42_method_71_code 18 = .ok (.aload_n 1, 1) := by decide +kernel
theorem d_jdk_42_method_71_19 : decode jdk_42_method_71_code 19 = .ok (.invokevirtual 335, 3) := by decide +kernel
theorem d_jdk_42_method_71_22 : decode jdk_42_method_71_code 22 = .ok (.if_icmp .ne 22, 3) := by decide +kernel
theorem d_jdk_42_method_71_25 : decode jdk_42_method_71_code 25 = .ok (.iload 4, 2) := by decide +kernel
theorem d_jdk_42_method_71_27 : decode jdk_42_method_71_code 27 = .ok (.ifCond .ne 11, 3) := by decide +kernel
theorem d_jdk_42_method_71_30 : decode jdk_42_method_71_code 30 = .ok (.aload_n 2, 1) := by decide +kernel
theorem d_jdk_42_method_71_31 : decode jdk_42_method_71_code 31 = .ok (.aload_n 3, 1) := by decide +kernel
theorem d_jdk_42_method_71_32 : decode jdk_42_method_71_code 32 = .ok (.invokestatic 586, 3) := by decide +kernel
theorem pd_9 : parseMethodDescriptor "([B[B)I" = some ⟨[(.array .byte), (.array .byte)], some .int⟩ := by decide +kernel
theorem d_jdk_42_method_71_35 : decode jdk_42_method_71_code 35 = .ok (.goto 8, 3) := by decide +kernel
theorem d_jdk_42_method_71_43 : decode jdk_42_method_71_code 43 = .ok (.ireturn, 1) := by decide +kernel
theorem d_prog_1_method_4_0 : decode prog_1_method_4_code 0 = .ok (.aload_n 0, 1) := by decide +kernel
theorem d_prog_1_method_4_1 : decode prog_1_method_4_code 1 = .ok (.getfield 19, 3) := by decide +kernel
theorem d_prog_1_method_4_4 : decode prog_1_method_4_code 4 = .ok (.aload_n 1, 1) := by decide +kernel
theorem d_prog_1_method_4_5 : decode prog_1_method_4_code 5 = .ok (.getfield 19, 3) := by decide +kernel
theorem d_prog_1_method_4_8 : decode prog_1_method_4_code 8 = .ok (.lcmp, 1) := by decide +kernel
theorem d_prog_1_method_4_9 : decode prog_1_method_4_code 9 = .ok (.ifCond .eq 21, 3) := by decide +kernel
theorem d_prog_1_method_4_30 : decode prog_1_method_4_code 30 = .ok (.aload_n 0, 1) := by decide +kernel
theorem d_prog_1_method_4_31 : decode prog_1_method_4_code 31 = .ok (.getfield 9, 3) := by decide +kernel
theorem d_prog_1_method_4_34 : decode prog_1_method_4_code 34 = .ok (.aload_n 1, 1) := by decide +kernel
theorem d_prog_1_method_4_35 : decode prog_1_method_4_code 35 = .ok (.getfield 9, 3) := by decide +kernel
theorem d_prog_1_method_4_38 : decode prog_1_method_4_code 38 = .ok (.invokevirtual 65, 3) := by decide +kernel
theorem pd_10 : parseMethodDescriptor "(Ljava/lang/String;)I" = some ⟨[(.object "java/lang/String")], some .int⟩ := by decide +kernel
theorem d_prog_1_method_4_41 : decode prog_1_method_4_code 41 = .ok (.ifCond .ge 7, 3) := by decide +kernel
theorem d_prog_1_method_4_44 : decode prog_1_method_4_code 44 = .ok (.iconst 1, 1) := by decide +kernel
theorem d_prog_1_method_4_45 : decode prog_1_method_4_code 45 = .ok (.goto 4, 3) := by decide +kernel
theorem d_prog_1_method_4_49 : decode prog_1_method_4_code 49 = .ok (.ireturn, 1) := by decide +kernel
theorem d_prog_1_method_4_48 : decode prog_1_method_4_code 48 = .ok (.iconst 0, 1) := by decide +kernel
theorem d_prog_1_method_4_12 : decode prog_1_method_4_code 12 = .ok (.aload_n 0, 1) := by decide +kernel
theorem d_prog_1_method_4_13 : decode prog_1_method_4_code 13 = .ok (.getfield 19, 3) := by decide +kernel
theorem d_prog_1_method_4_16 : decode prog_1_method_4_code 16 = .ok (.aload_n 1, 1) := by decide +kernel
theorem d_prog_1_method_4_17 : decode prog_1_method_4_code 17 = .ok (.getfield 19, 3) := by decide +kernel
theorem d_prog_1_method_4_20 : decode prog_1_method_4_code 20 = .ok (.lcmp, 1) := by decide +kernel
theorem d_prog_1_method_4_21 : decode prog_1_method_4_code 21 = .ok (.ifCond .ge 7, 3) := by decide +kernel
theorem d_prog_1_method_4_24 : decode prog_1_method_4_code 24 = .ok (.iconst 1, 1) := by decide +kernel
theorem d_prog_1_method_4_25 : decode prog_1_method_4_code 25 = .ok (.goto 4, 3) := by decide +kernel
theorem d_prog_1_method_4_29 : decode prog_1_method_4_code 29 = .ok (.ireturn, 1) := by decide +kernel
theorem d_prog_1_method_4_28 : decode prog_1_method_4_code 28 = .ok (.iconst 0, 1) := by decide +kernel
theorem pn_4 : plainName "com/example/lockline/lockline/Contender" = true := by first | (simp [plainName, overriddenIn]; done) | decide +kernel
theorem d_method_3_0 : decode method_3_code 0 = .ok (.iload_n 0, 1) := by decide +kernel
theorem d_method_3_1 : decode method_3_code 1 = .ok (.ifCond .ne 14, 3) := by decide +kernel
theorem d_method_3_4 : decode method_3_code 4 = .ok (.new 35, 3) := by decide +kernel
theorem d_method_3_7 : decode method_3_code 7 = .ok (.dup, 1) := by decide +kernel
theorem d_method_3_8 : decode method_3_code 8 = .ok (.iconst 0, 1) := by decide +kernel
theorem d_method_3_9 : decode method_3_code 9 = .ok (.newarray .char, 2) := by decide +kernel
theorem d_method_3_11 : decode method_3_code 11 = .ok (.invokespecial 37, 3) := by decide +kernel
theorem pd_11 : parseMethodDescriptor "([C)V" = some ⟨[(.array .char)], none⟩ := by decide +kernel
theorem d_method_3_14 : decode method_3_code 14 = .ok (.areturn, 1) := by decide +kernel
theorem d_method_3_15 : decode method_3_code 15 = .ok (.iload_n 0, 1) := by decide +kernel
theorem d_method_3_16 : decode method_3_code 16 = .ok (.iconst 1, 1) := by decide +kernel
theorem d_method_3_17 : decode method_3_code 17 = .ok (.if_icmp .ne 8, 3) := by decide +kernel
theorem d_method_3_20 : decode method_3_code 20 = .ok (.iload_n 1, 1) := by decide +kernel
theorem d_method_3_21 : decode method_3_code 21 = .ok (.invokestatic 40, 3) := by decide +kernel
theorem pd_12 : parseMethodDescriptor "(C)Ljava/lang/String;" = some ⟨[.char], some (.object "java/lang/String")⟩ := by decide +kernel
theorem d_method_3_24 : decode method_3_code 24 = .ok (.areturn, 1) := by decide +kernel
theorem d_method_3_25 : decode method_3_code 25 = .ok (.new 35, 3) := by decide +kernel
theorem d_method_3_28 : decode method_3_code 28 = .ok (.dup, 1) := by decide +kernel
theorem d_method_3_29 : decode method_3_code 29 = .ok (.iconst 2, 1) := by decide +kernel
theorem d_method_3_30 : decode method_3_code 30 = .ok (.newarray .char, 2) := by decide +kernel
theorem d_method_3_32 : decode method_3_code 32 = .ok (.dup, 1) := by decide +kernel
theorem d_method_3_33 : decode method_3_code 33 = .ok (.iconst 0, 1) := by decide +kernel
theorem d_method_3_34 : decode method_3_code 34 = .ok (.iload_n 1, 1) := by decide +kernel
theorem d_method_3_35 : decode method_3_code 35 = .ok (.castore, 1) := by decide +kernel
theorem d_method_3_36 : decode method_3_code 36 = .ok (.dup, 1) := by decide +kernel
theorem d_method_3_37 : decode method_3_code 37 = .ok (.iconst 1, 1) := by decide +kernel
theorem d_method_3_38 : decode method_3_code 38 = .ok (.iload_n 2, 1) := by decide +kernel
theorem d_method_3_39 : decode method_3_code 39 = .ok (.castore, 1) := by decide +kernel
theorem d_method_3_40 : decode method_3_code 40 = .ok (.invokespecial 37, 3) := by decide +kernel
theorem d_method_3_43 : decode method_3_code 43 = .ok (.areturn, 1) := by decide +kernel
theorem pn_5 : plainName "com/example/lockline/lockline/ContenderIsAheadOfPinLaw" = true := by first | (simp [plainName, overriddenIn]; done) | decide +kernel
theorem d_method_4_0 : decode method_4_code 0 = .ok (.iload_n 0, 1) := by decide +kernel
theorem d_method_4_1 : decode method_4_code 1 = .ok (.ifCond .ne 13, 3) := by decide +kernel
theorem d_method_4_4 : decode method_4_code 4 = .ok (.iload_n 3, 1) := by decide +kernel
theorem d_method_4_5 : decode method_4_code 5 = .ok (.ifCond .le 7, 3) := by decide +kernel
theorem d_method_4_8 : decode method_4_code 8 = .ok (.iconst 1, 1) := by decide +kernel
theorem d_method_4_9 : decode method_4_code 9 = .ok (.goto 4, 3) := by decide +kernel
theorem d_method_4_13 : decode method_4_code 13 = .ok (.ireturn, 1) := by decide +kernel
theorem d_method_4_12 : decode method_4_code 12 = .ok (.iconst 0, 1) := by decide +kernel
theorem d_method_4_14 : decode method_4_code 14 = .ok (.iload_n 3, 1) := by decide +kernel
theorem d_method_4_15 : decode method_4_code 15 = .ok (.ifCond .ne 5, 3) := by decide +kernel
theorem d_method_4_18 : decode method_4_code 18 = .ok (.iconst 0, 1) := by decide +kernel
theorem d_method_4_19 : decode method_4_code 19 = .ok (.ireturn, 1) := by decide +kernel
theorem d_method_4_20 : decode method_4_code 20 = .ok (.iload_n 1, 1) := by decide +kernel
theorem d_method_4_21 : decode method_4_code 21 = .ok (.iload 4, 2) := by decide +kernel
theorem d_method_4_23 : decode method_4_code 23 = .ok (.if_icmp .eq 15, 3) := by decide +kernel
theorem d_method_4_38 : decode method_4_code 38 = .ok (.iload_n 0, 1) := by decide +kernel
theorem d_method_4_39 : decode method_4_code 39 = .ok (.iconst 1, 1) := by decide +kernel
theorem d_method_4_40 : decode method_4_code 40 = .ok (.if_icmp .ne 14, 3) := by decide +kernel
theorem d_method_4_43 : decode method_4_code 43 = .ok (.iload_n 3, 1) := by decide +kernel
theorem d_method_4_44 : decode method_4_code 44 = .ok (.iconst 2, 1) := by decide +kernel
theorem d_method_4_45 : decode method_4_code 45 = .ok (.if_icmp .ne 7, 3) := by decide +kernel
theorem d_method_4_48 : decode method_4_code 48 = .ok (.iconst 1, 1) := by decide +kernel
theorem d_method_4_49 : decode method_4_code 49 = .ok (.goto 4, 3) := by decide +kernel
theorem d_method_4_53 : decode method_4_code 53 = .ok (.ireturn, 1) := by decide +kernel
theorem d_method_4_52 : decode method_4_code 52 = .ok (.iconst 0, 1) := by decide +kernel
theorem d_method_4_54 : decode method_4_code 54 = .ok (.iload_n 3, 1) := by decide +kernel
theorem d_method_4_55 : decode method_4_code 55 = .ok (.iconst 1, 1) := by decide +kernel
theorem d_method_4_56 : decode method_4_code 56 = .ok (.if_icmp .ne 5, 3) := by decide +kernel
theorem d_method_4_59 : decode method_4_code 59 = .ok (.iconst 0, 1) := by decide +kernel
theorem d_method_4_60 : decode method_4_code 60 = .ok (.ireturn, 1) := by decide +kernel
theorem d_method_4_61 : decode method_4_code 61 = .ok (.iload_n 2, 1) := by decide +kernel
theorem d_method_4_62 : decode method_4_code 62 = .ok (.iload 5, 2) := by decide +kernel
theorem d_method_4_64 : decode method_4_code 64 = .ok (.if_icmp .eq 15, 3) := by decide +kernel
theorem d_method_4_79 : decode method_4_code 79 = .ok (.iconst 0, 1) := by decide +kernel
theorem d_method_4_80 : decode method_4_code 80 = .ok (.ireturn, 1) := by decide +kernel
theorem d_method_4_67 : decode method_4_code 67 = .ok (.iload_n 2, 1) := by decide +kernel
theorem d_method_4_68 : decode method_4_code 68 = .ok (.iload 5, 2) := by decide +kernel
theorem d_method_4_70 : decode method_4_code 70 = .ok (.if_icmp .ge 7, 3) := by decide +kernel
theorem d_method_4_73 : decode method_4_code 73 = .ok (.iconst 1, 1) := by decide +kernel
theorem d_method_4_74 : decode method_4_code 74 = .ok (.goto 4, 3) := by decide +kernel
theorem d_method_4_78 : decode method_4_code 78 = .ok (.ireturn, 1) := by decide +kernel
theorem d_method_4_77 : decode method_4_code 77 = .ok (.iconst 0, 1) := by decide +kernel
theorem d_method_4_26 : decode method_4_code 26 = .ok (.iload_n 1, 1) := by decide +kernel
theorem d_method_4_27 : decode method_4_code 27 = .ok (.iload 4, 2) := by decide +kernel
theorem d_method_4_29 : decode method_4_code 29 = .ok (.if_icmp .ge 7, 3) := by decide +kernel
theorem d_method_4_32 : decode method_4_code 32 = .ok (.iconst 1, 1) := by decide +kernel
theorem d_method_4_33 : decode method_4_code 33 = .ok (.goto 4, 3) := by decide +kernel
theorem d_method_4_37 : decode method_4_code 37 = .ok (.ireturn, 1) := by decide +kernel
theorem d_method_4_36 : decode method_4_code 36 = .ok (.iconst 0, 1) := by decide +kernel
theorem d_prog_1_method_1_0 : decode prog_1_method_1_code 0 = .ok (.aload_n 0, 1) := by decide +kernel
theorem d_prog_1_method_1_1 : decode prog_1_method_1_code 1 = .ok (.invokespecial 3, 3) := by decide +kernel
theorem pd_13 : parseMethodDescriptor "()V" = some ⟨[], none⟩ := by decide +kernel
theorem d_prog_1_method_1_4 : decode prog_1_method_1_code 4 = .ok (.aload_n 0, 1) := by decide +kernel
theorem d_prog_1_method_1_5 : decode prog_1_method_1_code 5 = .ok (.aload_n 1, 1) := by decide +kernel
theorem d_prog_1_method_1_6 : decode prog_1_method_1_code 6 = .ok (.putfield 9, 3) := by decide +kernel
theorem d_prog_1_method_1_9 : decode prog_1_method_1_code 9 = .ok (.aload_n 0, 1) := by decide +kernel
theorem d_prog_1_method_1_10 : decode prog_1_method_1_code 10 = .ok (.aload_n 2, 1) := by decide +kernel
theorem d_prog_1_method_1_11 : decode prog_1_method_1_code 11 = .ok (.putfield 15, 3) := by decide +kernel
theorem d_prog_1_method_1_14 : decode prog_1_method_1_code 14 = .ok (.aload_n 0, 1) := by decide +kernel
theorem d_prog_1_method_1_15 : decode prog_1_method_1_code 15 = .ok (.lload_n 3, 1) := by decide +kernel
theorem d_prog_1_method_1_16 : decode prog_1_method_1_code 16 = .ok (.putfield 19, 3) := by decide +kernel
theorem d_prog_1_method_1_19 : decode prog_1_method_1_code 19 = .ok (.return_, 1) := by decide +kernel
theorem pd_14 : parseMethodDescriptor "(ICC)Ljava/lang/String;" = some ⟨[.int, .char, .char], some (.object "java/lang/String")⟩ := by decide +kernel
theorem pd_15 : parseMethodDescriptor "(Ljava/lang/String;Lcom/example/lockline/lockline/Contender$Kind;J)V" = some ⟨[(.object "java/lang/String"), (.object "com/example/lockline/lockline/Contender$Kind"), .long], none⟩ := by decide +kernel
theorem pd_16 : parseMethodDescriptor "(Lcom/example/lockline/lockline/Contender;)Z" = some ⟨[(.object "com/example/lockline/lockline/Contender")], some .boolean⟩ := by decide +kernel
theorem pd_17 : parseMethodDescriptor "(ICCICC)Z" = some ⟨[.int, .char, .char, .int, .char, .char], some .boolean⟩ := by decide +kernel
def QRec (Z : State) (a : Addr) (h0 : Heap) (n0 : Nat) (v : Option Value) (h : Heap) (L : List Loc) : Prop := v = none ∧ Fr n0 L ∧ h = h0
theorem ef_Rec (m : MethodId) (a : Addr) : entryFrame m #[(.ref a)] 1 = mkF m 0 #[.val (.ref a)] [] := by first | (simp [entryFrame, mkF, argsToLocals, Value.category]; done) | rfl | (rfl)
set_option maxRecDepth 65536 in
set_option maxHeartbeats 40000000 in
theorem rmRec (l : Launch) (Z : State) (a0 : Array Value) (hw : ∀ d ∈ tables_1, d.before a0 Z = true) (ws : List Jvm.Cond) (a : Addr) (h0 : Heap) (n0 : Nat) (O : Old Z n0 h0)  :
    MetFree l (⟨"java/lang/Record", "<init>", "()V"⟩ : MethodName) (head1 (Jvm.Cond.code (⟨"java/lang/Record", "<init>", "()V"⟩ : MethodName) jdk_30_method_1_code 1 none :: ws) ({ frames := 1, cells := 0, slots := 0, locals := 12 } : Room)) (fun as_ U => as_ = #[(.ref a)] ∧ Z.Warmed39 U.vm ∧ U.heap = h0) (fun _ _ _ _ _ => True) (fun _ U oo_ U' => ∃ vv_ LL_, oo_ = .returned vv_ ∧ QRec Z a h0 n0 vv_ U'.heap LL_ ∧ FrameEnd U oo_ U' LL_ ({ frames := 1, cells := 0, slots := 0, locals := 12 } : Room).cells ({ frames := 1, cells := 0, slots := 0, locals := 12 } : Room).slots) := by
  refine MetFree.of_bodySF (plainFor_of_name pn_0) hisR ?_
  intro p e s m args below meth c s₁ Bd hml0 hP hK
  obtain ⟨rfl, hZ, hh⟩ := hP
  have hx := Bd.exec
  have hby := Bd.bytes
  have hml : c.maxLocals = 1 := hml0
  have hown : s.vm.findClass "java/lang/Record" = some m.cls := findClass_of_methodNamed Bd.named
  have hnm := (name_of_methodNamed Bd.named Bd.method).1
  have X0 : Stand p l e ({ frames := 1, cells := 0, slots := 0, locals := 12 } : Room) s m #[(.ref a)] below meth c s₁ [] 0 0 := Stand.of_body Bd
  have e0 : s₁.heap = h0 := by rw [← hh, Bd.state]; rfl
  have N := Fr.nil n0
  have K : Keep h0 h0 [] := Keep.refl h0 _
  refine own_go (B := s₁.setTop (mkF m 0 #[.val (.ref a)] [])) (fun t k => castTop (ef_Rec m a) k) ?_
  refine own_abs (fun P hfin => ?_)
  refine own_go (B := s₁.setTop (mkF m 1 #[.val (.ref a)] [(.ref a)])) (fun t k => ?_) ?_
  · show Steps p.tables e below (s₁.setTop (mkF m 0 #[.val (.ref a)] [])) _
    refine XS.aloadN X0.here hx rfl (hb hby d_jdk_30_method_1_0) rfl rfl ?_
    show Steps p.tables e below (s₁.setTop (mkF m 1 #[.val (.ref a)] [(.ref a)])) _
    exact k
  obtain ⟨T1, X1, e1, st1⟩ := initO X0 hx hZ hown (hw _ (List.mem_of_getElem? (i := 40) rfl)) (hw _ (List.mem_of_getElem? (i := 22) rfl)) (hw _ (List.mem_of_getElem? (i := 23) rfl)) e0 (g := (mkF m 1 #[.val (.ref a)] [(.ref a)])) rfl (by rw [hml]; rfl) rfl (hb hby d_jdk_30_method_1_1) (by decide) (W := 0) (by show 2 * 0 + _ ≤ _; exact Nat.le_of_eq rfl) (by decide)
  refine own_go (B := T1.setTop (mkF m 4 #[.val (.ref a)] [])) st1 ?_
  obtain ⟨fs, hr, hrun, hended, hW, hsame⟩ := X1.leave (v := none) (fun _ => rfl)
  refine ⟨_, _, X1.returnOut hx Bd.returns (hb hby d_jdk_30_method_1_4) hr, hfin _ _ ⟨hrun, hended, _, _, rfl, ?_, ⟨_, rfl⟩, hW, hsame.mono (by decide) (by decide)⟩⟩
  show QRec Z a h0 n0 _ T1.heap _
  exact ⟨rfl, N, e1⟩
def QSE2 (Z : State) (a : Addr) (b : Addr) (h0 : Heap) (n0 : Nat) (v : Option Value) (h : Heap) (L : List Loc) : Prop := ∃ t : Addr, ∃ k : ClassId, v = none ∧ Fr n0 L ∧ Keep h0 h [a] ∧ Fld Z h a "java/lang/String" "coder" "B" (.int (0 : Int32)) ∧ Fld Z h a "java/lang/String" "value" "[B" (.ref t) ∧ Arv Z h t k .byte (0 : Int32) (own_bs []) (.int (0 : Int32))
theorem ef_SE2 (m : MethodId) (a : Addr) (b : Addr) : entryFrame m #[(.ref a), (.ref b), (.int (0 : Int32)), (.int (0 : Int32)), .null] 6 = mkF m 0 #[.val (.ref a), .val (.ref b), .val (.int (0 : Int32)), .val (.int (0 : Int32)), .val .null, .unset] [] := by first | (simp [entryFrame, mkF, argsToLocals, Value.category]; done) | rfl | (rfl)
set_option maxRecDepth 65536 in
set_option maxHeartbeats 40000000 in
theorem rmSE2 (l : Launch) (Z : State) (a0 : Array Value) (hw : ∀ d ∈ tables_1, d.before a0 Z = true) (ws : List Jvm.Cond) (a : Addr) (b : Addr) (h0 : Heap) (n0 : Nat) (O : Old Z n0 h0) (E : Exa Z h0 a "java/lang/String") (F1 : Fld Z h0 a "java/lang/String" "value" "[B" .null) (F2 : Fld Z h0 a "java/lang/String" "coder" "B" (.int (0 : Int32))) (ga : n0 ≤ a) (hcH : Jvm.Lit.constHeld Z "java/lang/String" 7) (hcw : Jvm.Lit.compactW.before a0 Z = true) :
    MetFree l (⟨"java/lang/String", "<init>", "([CIILjava/lang/Void;)V"⟩ : MethodName) (head1 (Jvm.Cond.code (⟨"java/lang/String", "<init>", "([CIILjava/lang/Void;)V"⟩ : MethodName) jdk_42_method_149_code 6 none :: ws) ({ frames := 1, cells := 2, slots := 4, locals := 12 } : Room)) (fun as_ U => as_ = #[(.ref a), (.ref b), (.int (0 : Int32)), (.int (0 : Int32)), .null] ∧ Z.Warmed39 U.vm ∧ U.heap = h0 ∧ Em Z U.vm h0) (fun _ _ _ _ _ => True) (fun _ U oo_ U' => ∃ vv_ LL_, oo_ = .returned vv_ ∧ QSE2 Z a b h0 n0 vv_ U'.heap LL_ ∧ ReturnedEndW U oo_ U' LL_ ({ frames := 1, cells := 2, slots := 4, locals := 12 } : Room).cells ({ frames := 1, cells := 2, slots := 4, locals := 12 } : Room).slots ∧ Em Z U'.vm U'.heap) := by
  refine MetFree.of_bodySF (plainFor_of_name pn_1) hisR ?_
  intro p e s m args below meth c s₁ Bd hml0 hP hK
  obtain ⟨rfl, hZ, hh, M⟩ := hP
  have hx := Bd.exec
  have hby := Bd.bytes
  have hml : c.maxLocals = 6 := hml0
  have hown : s.vm.findClass "java/lang/String" = some m.cls := findClass_of_methodNamed Bd.named
  have hnm := (name_of_methodNamed Bd.named Bd.method).1
  have X0 : Stand p l e ({ frames := 1, cells := 2, slots := 4, locals := 12 } : Room) (s.setVm s.vm) m #[(.ref a), (.ref b), (.int (0 : Int32)), (.int (0 : Int32)), .null] below meth c s₁ [] 0 0 := Stand.of_body Bd
  have e0 : s₁.heap = h0 := by rw [← hh, Bd.state]; rfl
  have N := Fr.nil n0
  have hown : (s.setVm s.vm).vm.findClass "java/lang/String" = some m.cls := hown
  have hZ : Z.Warmed39 (s.setVm s.vm).vm := hZ
  have hS : s.Since s.vm h0.size := (State.WarmedH.refl s).since _
  have hk : h0.size ≤ h0.size := Nat.le_refl _
  have K : Keep h0 h0 [a] := Keep.refl h0 _
  refine own_go (B := s₁.setTop (mkF m 0 #[.val (.ref a), .val (.ref b), .val (.int (0 : Int32)), .val (.int (0 : Int32)), .val .null, .unset] [])) (fun t k => castTop (ef_SE2 m a b) k) ?_
  have KM : Keep h0 h0 [] := Keep.refl h0 _
  refine own_abs (fun P hfin => ?_)
  refine own_go (B := s₁.setTop (mkF m 1 #[.val (.ref a), .val (.ref b), .val (.int (0 : Int32)), .val (.int (0 : Int32)), .val .null, .unset] [(.ref a)])) (fun t k => ?_) ?_
  · show Steps p.tables e below (s₁.setTop (mkF m 0 #[.val (.ref a), .val (.ref b), .val (.int (0 : Int32)), .val (.int (0 : Int32)), .val .null, .unset] [])) _
    refine XS.aloadN X0.here hx rfl (hb hby d_jdk_42_method_149_0) rfl rfl ?_
    show Steps p.tables e below (s₁.setTop (mkF m 1 #[.val (.ref a), .val (.ref b), .val (.int (0 : Int32)), .val (.int (0 : Int32)), .val .null, .unset] [(.ref a)])) _
    exact k
  obtain ⟨T1, X1, e1, st1⟩ := initO X0 hx hZ hown (hw _ (List.mem_of_getElem? (i := 21) rfl)) (hw _ (List.mem_of_getElem? (i := 22) rfl)) (hw _ (List.mem_of_getElem? (i := 23) rfl)) e0 (g := (mkF m 1 #[.val (.ref a), .val (.ref b), .val (.int (0 : Int32)), .val (.int (0 : Int32)), .val .null, .unset] [(.ref a)])) rfl (by rw [hml]; rfl) rfl (hb hby d_jdk_42_method_149_1) (by decide) (W := 0) (by show 2 * 0 + _ ≤ _; exact Nat.le_of_eq rfl) (by decide)
  refine own_go (B := T1.setTop (mkF m 4 #[.val (.ref a), .val (.ref b), .val (.int (0 : Int32)), .val (.int (0 : Int32)), .val .null, .unset] [])) st1 ?_
  refine own_go (B := T1.setTop (mkF m 9 #[.val (.ref a), .val (.ref b), .val (.int (0 : Int32)), .val (.int (0 : Int32)), .val .null, .unset] [(.ref a)])) (fun t k => ?_) ?_
  · show Steps p.tables e below (T1.setTop (mkF m 4 #[.val (.ref a), .val (.ref b), .val (.int (0 : Int32)), .val (.int (0 : Int32)), .val .null, .unset] [])) _
    refine XS.iloadN X1.here hx rfl (hb hby d_jdk_42_method_149_4) rfl ?_
    show Steps p.tables e below (T1.setTop (mkF m 5 #[.val (.ref a), .val (.ref b), .val (.int (0 : Int32)), .val (.int (0 : Int32)), .val .null, .unset] [(.int (0 : Int32))])) _
    refine XS.ifNo X1.here hx rfl (hb hby d_jdk_42_method_149_5) rfl ((if0 _ _).trans (teq (by decide)).2) ?_
    show Steps p.tables e below (T1.setTop (mkF m 8 #[.val (.ref a), .val (.ref b), .val (.int (0 : Int32)), .val (.int (0 : Int32)), .val .null, .unset] [])) _
    refine XS.aloadN X1.here hx rfl (hb hby d_jdk_42_method_149_8) rfl rfl ?_
    show Steps p.tables e below (T1.setTop (mkF m 9 #[.val (.ref a), .val (.ref b), .val (.int (0 : Int32)), .val (.int (0 : Int32)), .val .null, .unset] [(.ref a)])) _
    exact k
  rcases M with I | ⟨ca, cb, ck, LL, Ec, Fc, Fv, Vb⟩
  · have hkeep : ∀ (b : Addr) (cl : Cell), Z.heap[b]? = some cl → s.heap[b]? = some cl := fun b cl q => by rw [hh]; exact O.2.2 b cl q
    obtain ⟨ca, T2, h2, k2, cb, ck, X2, e2, E2, hS, hk', hZ, hown, Ec, Fc, Fv, Vb, -, -, -, LL, st2⟩ := ldcSVL X1 hx hZ hown (hw _ (List.mem_of_getElem? (i := 24) rfl)) (fun d hd => hw d ((by decide +kernel : ∀ d ∈ Bundle.stringAtoms, d ∈ tables_1) d hd)) e1 hS hk (Fr.nil _) hkeep I (by simp) hcH hcw (vs := []) (z := 0) ⟨by simp, rfl⟩ (by decide) rfl (g := (mkF m 9 #[.val (.ref a), .val (.ref b), .val (.int (0 : Int32)), .val (.int (0 : Int32)), .val .null, .unset] [(.ref a)])) rfl (hb hby d_jdk_42_method_149_9) (n := 0) (by decide) (by decide) (by decide) (by decide)
    replace E := E.ext E2
    replace F1 := F1.ext E2
    replace F2 := F2.ext E2
    replace O := O.ext E2
    replace hk := Nat.le_trans hk E2.1
    replace KM := KM.ext E2
    replace K := K.ext E2
    replace hk := hk'
    replace Vb : Arv Z h2 cb ck .byte (0 : Int32) (own_bs []) (.int (0 : Int32)) := Vb
    refine own_go (B := T2.setTop (mkF m 11 #[.val (.ref a), .val (.ref b), .val (.int (0 : Int32)), .val (.int (0 : Int32)), .val .null, .unset] [(.ref ca), (.ref a)])) st2 ?_
    have ne_ca : ca ≠ a := Fld.ne Fv F1 (by simp)
    have ne_cb : cb ≠ a := Ne.symm (E.neArv Vb (hw _ (List.mem_of_getElem? (i := 11) rfl)))
    obtain ⟨T3, X3, e3, st3⟩ := getF X2 hx hZ hown (host := "") (Or.inl (hw _ (List.mem_of_getElem? (i := 30) rfl))) Via.refl e2 Fv (g := (mkF m 11 #[.val (.ref a), .val (.ref b), .val (.int (0 : Int32)), .val (.int (0 : Int32)), .val .null, .unset] [(.ref ca), (.ref a)])) rfl rfl (hb hby d_jdk_42_method_149_11)
    refine own_go (B := T3.setTop (mkF m 14 #[.val (.ref a), .val (.ref b), .val (.int (0 : Int32)), .val (.int (0 : Int32)), .val .null, .unset] [(.ref cb), (.ref a)])) st3 ?_
    obtain ⟨T4, h4, X4, e4, W4, st4⟩ := putF X3 hx hZ hown (host := "") (Or.inl (hw _ (List.mem_of_getElem? (i := 30) rfl))) Via.refl e3 F1 E (Or.inr ⟨(hw _ (List.mem_of_getElem? (i := 26) rfl)), rfl, hnm⟩) (hw _ (List.mem_of_getElem? (i := 11) rfl)) (ty := (.array .byte)) (by decide) rfl rfl (g := (mkF m 14 #[.val (.ref a), .val (.ref b), .val (.int (0 : Int32)), .val (.int (0 : Int32)), .val .null, .unset] [(.ref cb), (.ref a)])) rfl rfl (hb hby d_jdk_42_method_149_14)
    have Fw4 := F1.same W4
    replace E := E.wr W4
    clear F1
    replace F2 := F2.other W4 (Or.inr (slot_ne (Or.inr (hw _ (List.mem_of_getElem? (i := 27) rfl))) (Or.inr (hw _ (List.mem_of_getElem? (i := 26) rfl))) (by decide) (t := .byte) (t' := (.array .byte)) (by decide) (by decide)))
    replace Ec := Ec.wr W4
    replace Fc := Fc.other W4 (Or.inl ne_ca)
    replace Fv := Fv.other W4 (Or.inl ne_ca)
    replace Vb := Vb.other W4 ne_cb
    replace O := O.wr W4 ga
    replace hk := Nat.le_trans hk (Keep.of_wr W4).1
    replace K := K.wr W4 (Or.inl (List.mem_of_getElem? (i := 0) rfl))
    replace N := Fr.snoc X4 N ga
    refine own_go (B := T4.setTop (mkF m 17 #[.val (.ref a), .val (.ref b), .val (.int (0 : Int32)), .val (.int (0 : Int32)), .val .null, .unset] [])) st4 ?_
    refine own_go (B := T4.setTop (mkF m 18 #[.val (.ref a), .val (.ref b), .val (.int (0 : Int32)), .val (.int (0 : Int32)), .val .null, .unset] [(.ref a)])) (fun t k => ?_) ?_
    · show Steps p.tables e below (T4.setTop (mkF m 17 #[.val (.ref a), .val (.ref b), .val (.int (0 : Int32)), .val (.int (0 : Int32)), .val .null, .unset] [])) _
      refine XS.aloadN X4.here hx rfl (hb hby d_jdk_42_method_149_17) rfl rfl ?_
      show Steps p.tables e below (T4.setTop (mkF m 18 #[.val (.ref a), .val (.ref b), .val (.int (0 : Int32)), .val (.int (0 : Int32)), .val .null, .unset] [(.ref a)])) _
      exact k
    have st5 := ldcAgain X4 hx hZ hown (hw _ (List.mem_of_getElem? (i := 24) rfl)) LL (g := (mkF m 18 #[.val (.ref a), .val (.ref b), .val (.int (0 : Int32)), .val (.int (0 : Int32)), .val .null, .unset] [(.ref a)])) rfl (hb hby d_jdk_42_method_149_18)
    refine own_go (B := T4.setTop (mkF m 20 #[.val (.ref a), .val (.ref b), .val (.int (0 : Int32)), .val (.int (0 : Int32)), .val .null, .unset] [(.ref ca), (.ref a)])) st5 ?_
    obtain ⟨T6, X6, e6, st6⟩ := getF X4 hx hZ hown (host := "") (Or.inl (hw _ (List.mem_of_getElem? (i := 31) rfl))) Via.refl e4 Fc (g := (mkF m 20 #[.val (.ref a), .val (.ref b), .val (.int (0 : Int32)), .val (.int (0 : Int32)), .val .null, .unset] [(.ref ca), (.ref a)])) rfl rfl (hb hby d_jdk_42_method_149_20)
    refine own_go (B := T6.setTop (mkF m 23 #[.val (.ref a), .val (.ref b), .val (.int (0 : Int32)), .val (.int (0 : Int32)), .val .null, .unset] [(.int (0 : Int32)), (.ref a)])) st6 ?_
    obtain ⟨T7, h7, X7, e7, W7, st7⟩ := putFN X6 hx hZ hown (hw _ (List.mem_of_getElem? (i := 31) rfl)) Via.refl e6 F2 E (Or.inr ⟨(hw _ (List.mem_of_getElem? (i := 27) rfl)), rfl, hnm⟩) (hw _ (List.mem_of_getElem? (i := 11) rfl)) (ty := .byte) (v' := (.int (0 : Int32))) (by decide) rfl rfl (g := (mkF m 23 #[.val (.ref a), .val (.ref b), .val (.int (0 : Int32)), .val (.int (0 : Int32)), .val .null, .unset] [(.int (0 : Int32)), (.ref a)])) rfl rfl (hb hby d_jdk_42_method_149_23)
    have Fw7 := F2.same W7
    replace E := E.wr W7
    clear F2
    replace Ec := Ec.wr W7
    replace Fc := Fc.other W7 (Or.inl ne_ca)
    replace Fv := Fv.other W7 (Or.inl ne_ca)
    replace Vb := Vb.other W7 ne_cb
    replace Fw4 := Fw4.other W7 (Or.inr (slot_ne (Or.inr (hw _ (List.mem_of_getElem? (i := 26) rfl))) (Or.inr (hw _ (List.mem_of_getElem? (i := 27) rfl))) (by decide) (t := (.array .byte)) (t' := .byte) (by decide) (by decide)))
    replace O := O.wr W7 ga
    replace hk := Nat.le_trans hk (Keep.of_wr W7).1
    replace K := K.wr W7 (Or.inl (List.mem_of_getElem? (i := 0) rfl))
    replace N := Fr.snoc X7 N ga
    refine own_go (B := T7.setTop (mkF m 26 #[.val (.ref a), .val (.ref b), .val (.int (0 : Int32)), .val (.int (0 : Int32)), .val .null, .unset] [])) st7 ?_
    have M : Em Z T2.vm h7 := Or.inr ⟨ca, cb, ck, LL, Ec, Fc, Fv, Vb⟩
    have KM : Keep h7 h7 [] := Keep.refl _ _
    obtain ⟨fs, hr, hrun, hended, hEnd⟩ := X7.leaveW hS (by rw [e7]; exact hk) (v := none) (fun _ => rfl)
    refine ⟨_, _, X7.returnOut hx Bd.returns (hb hby d_jdk_42_method_149_26) hr, hfin _ _ ⟨hrun, hended, _, _, rfl, ?_, ⟨hEnd.1, hEnd.2.1, hEnd.2.2.1, hEnd.2.2.2.mono (by decide) (by decide)⟩, own_emR e7 (Em.warm M X7.warmed)⟩⟩
    show QSE2 Z a b h0 n0 _ T7.heap _
    rw [e7]
    exact ⟨cb, ck, rfl, N, K, Fw7, Fw4, Vb⟩
  · replace LL : Lit (s.setVm s.vm) "java/lang/String" 7 ca := LL
    have st9 := ldcAgain X1 hx hZ hown (hw _ (List.mem_of_getElem? (i := 24) rfl)) LL (g := (mkF m 9 #[.val (.ref a), .val (.ref b), .val (.int (0 : Int32)), .val (.int (0 : Int32)), .val .null, .unset] [(.ref a)])) rfl (hb hby d_jdk_42_method_149_9)
    refine own_go (B := T1.setTop (mkF m 11 #[.val (.ref a), .val (.ref b), .val (.int (0 : Int32)), .val (.int (0 : Int32)), .val .null, .unset] [(.ref ca), (.ref a)])) st9 ?_
    have ne_ca : ca ≠ a := Fld.ne Fv F1 (by simp)
    have ne_cb : cb ≠ a := Ne.symm (E.neArv Vb (hw _ (List.mem_of_getElem? (i := 11) rfl)))
    obtain ⟨T10, X10, e10, st10⟩ := getF X1 hx hZ hown (host := "") (Or.inl (hw _ (List.mem_of_getElem? (i := 30) rfl))) Via.refl e1 Fv (g := (mkF m 11 #[.val (.ref a), .val (.ref b), .val (.int (0 : Int32)), .val (.int (0 : Int32)), .val .null, .unset] [(.ref ca), (.ref a)])) rfl rfl (hb hby d_jdk_42_method_149_11)
    refine own_go (B := T10.setTop (mkF m 14 #[.val (.ref a), .val (.ref b), .val (.int (0 : Int32)), .val (.int (0 : Int32)), .val .null, .unset] [(.ref cb), (.ref a)])) st10 ?_
    obtain ⟨T11, h11, X11, e11, W11, st11⟩ := putF X10 hx hZ hown (host := "") (Or.inl (hw _ (List.mem_of_getElem? (i := 30) rfl))) Via.refl e10 F1 E (Or.inr ⟨(hw _ (List.mem_of_getElem? (i := 26) rfl)), rfl, hnm⟩) (hw _ (List.mem_of_getElem? (i := 11) rfl)) (ty := (.array .byte)) (by decide) rfl rfl (g := (mkF m 14 #[.val (.ref a), .val (.ref b), .val (.int (0 : Int32)), .val (.int (0 : Int32)), .val .null, .unset] [(.ref cb), (.ref a)])) rfl rfl (hb hby d_jdk_42_method_149_14)
    have Fw11 := F1.same W11
    replace E := E.wr W11
    clear F1
    replace F2 := F2.other W11 (Or.inr (slot_ne (Or.inr (hw _ (List.mem_of_getElem? (i := 27) rfl))) (Or.inr (hw _ (List.mem_of_getElem? (i := 26) rfl))) (by decide) (t := .byte) (t' := (.array .byte)) (by decide) (by decide)))
    replace Ec := Ec.wr W11
    replace Fc := Fc.other W11 (Or.inl ne_ca)
    replace Fv := Fv.other W11 (Or.inl ne_ca)
    replace Vb := Vb.other W11 ne_cb
    replace O := O.wr W11 ga
    replace hk := Nat.le_trans hk (Keep.of_wr W11).1
    replace K := K.wr W11 (Or.inl (List.mem_of_getElem? (i := 0) rfl))
    replace N := Fr.snoc X11 N ga
    refine own_go (B := T11.setTop (mkF m 17 #[.val (.ref a), .val (.ref b), .val (.int (0 : Int32)), .val (.int (0 : Int32)), .val .null, .unset] [])) st11 ?_
    refine own_go (B := T11.setTop (mkF m 18 #[.val (.ref a), .val (.ref b), .val (.int (0 : Int32)), .val (.int (0 : Int32)), .val .null, .unset] [(.ref a)])) (fun t k => ?_) ?_
    · show Steps p.tables e below (T11.setTop (mkF m 17 #[.val (.ref a), .val (.ref b), .val (.int (0 : Int32)), .val (.int (0 : Int32)), .val .null, .unset] [])) _
      refine XS.aloadN X11.here hx rfl (hb hby d_jdk_42_method_149_17) rfl rfl ?_
      show Steps p.tables e below (T11.setTop (mkF m 18 #[.val (.ref a), .val (.ref b), .val (.int (0 : Int32)), .val (.int (0 : Int32)), .val .null, .unset] [(.ref a)])) _
      exact k
    have st12 := ldcAgain X11 hx hZ hown (hw _ (List.mem_of_getElem? (i := 24) rfl)) LL (g := (mkF m 18 #[.val (.ref a), .val (.ref b), .val (.int (0 : Int32)), .val (.int (0 : Int32)), .val .null, .unset] [(.ref a)])) rfl (hb hby d_jdk_42_method_149_18)
    refine own_go (B := T11.setTop (mkF m 20 #[.val (.ref a), .val (.ref b), .val (.int (0 : Int32)), .val (.int (0 : Int32)), .val .null, .unset] [(.ref ca), (.ref a)])) st12 ?_
    obtain ⟨T13, X13, e13, st13⟩ := getF X11 hx hZ hown (host := "") (Or.inl (hw _ (List.mem_of_getElem? (i := 31) rfl))) Via.refl e11 Fc (g := (mkF m 20 #[.val (.ref a), .val (.ref b), .val (.int (0 : Int32)), .val (.int (0 : Int32)), .val .null, .unset] [(.ref ca), (.ref a)])) rfl rfl (hb hby d_jdk_42_method_149_20)
    refine own_go (B := T13.setTop (mkF m 23 #[.val (.ref a), .val (.ref b), .val (.int (0 : Int32)), .val (.int (0 : Int32)), .val .null, .unset] [(.int (0 : Int32)), (.ref a)])) st13 ?_
    obtain ⟨T14, h14, X14, e14, W14, st14⟩ := putFN X13 hx hZ hown (hw _ (List.mem_of_getElem? (i := 31) rfl)) Via.refl e13 F2 E (Or.inr ⟨(hw _ (List.mem_of_getElem? (i := 27) rfl)), rfl, hnm⟩) (hw _ (List.mem_of_getElem? (i := 11) rfl)) (ty := .byte) (v' := (.int (0 : Int32))) (by decide) rfl rfl (g := (mkF m 23 #[.val (.ref a), .val (.ref b), .val (.int (0 : Int32)), .val (.int (0 : Int32)), .val .null, .unset] [(.int (0 : Int32)), (.ref a)])) rfl rfl (hb hby d_jdk_42_method_149_23)
    have Fw14 := F2.same W14
    replace E := E.wr W14
    clear F2
    replace Ec := Ec.wr W14
    replace Fc := Fc.other W14 (Or.inl ne_ca)
    replace Fv := Fv.other W14 (Or.inl ne_ca)
    replace Vb := Vb.other W14 ne_cb
    replace Fw11 := Fw11.other W14 (Or.inr (slot_ne (Or.inr (hw _ (List.mem_of_getElem? (i := 26) rfl))) (Or.inr (hw _ (List.mem_of_getElem? (i := 27) rfl))) (by decide) (t := (.array .byte)) (t' := .byte) (by decide) (by decide)))
    replace O := O.wr W14 ga
    replace hk := Nat.le_trans hk (Keep.of_wr W14).1
    replace K := K.wr W14 (Or.inl (List.mem_of_getElem? (i := 0) rfl))
    replace N := Fr.snoc X14 N ga
    refine own_go (B := T14.setTop (mkF m 26 #[.val (.ref a), .val (.ref b), .val (.int (0 : Int32)), .val (.int (0 : Int32)), .val .null, .unset] [])) st14 ?_
    have M : Em Z s.vm h14 := Or.inr ⟨ca, cb, ck, LL, Ec, Fc, Fv, Vb⟩
    have KM : Keep h14 h14 [] := Keep.refl _ _
    obtain ⟨fs, hr, hrun, hended, hEnd⟩ := X14.leaveW hS (by rw [e14]; exact hk) (v := none) (fun _ => rfl)
    refine ⟨_, _, X14.returnOut hx Bd.returns (hb hby d_jdk_42_method_149_26) hr, hfin _ _ ⟨hrun, hended, _, _, rfl, ?_, ⟨hEnd.1, hEnd.2.1, hEnd.2.2.1, hEnd.2.2.2.mono (by decide) (by decide)⟩, own_emR e14 (Em.warm M X14.warmed)⟩⟩
    show QSE2 Z a b h0 n0 _ T14.heap _
    rw [e14]
    exact ⟨cb, ck, rfl, N, K, Fw14, Fw11, Vb⟩
def QSE1 (Z : State) (a : Addr) (b : Addr) (kc : ClassId) (vs : List Value) (dv : Value) (h0 : Heap) (n0 : Nat) (v : Option Value) (h : Heap) (L : List Loc) : Prop := ∃ t : Addr, ∃ k : ClassId, v = none ∧ Fr n0 L ∧ Keep h0 h [a] ∧ Fld Z h a "java/lang/String" "coder" "B" (.int (0 : Int32)) ∧ Fld Z h a "java/lang/String" "value" "[B" (.ref t) ∧ Arv Z h t k .byte (0 : Int32) (own_bs []) (.int (0 : Int32))
theorem ef_SE1 (m : MethodId) (a : Addr) (b : Addr) : entryFrame m #[(.ref a), (.ref b)] 2 = mkF m 0 #[.val (.ref a), .val (.ref b)] [] := by first | (simp [entryFrame, mkF, argsToLocals, Value.category]; done) | rfl | (rfl)
set_option maxRecDepth 65536 in
set_option maxHeartbeats 40000000 in
theorem rmSE1 (l : Launch) (Z : State) (a0 : Array Value) (hw : ∀ d ∈ tables_1, d.before a0 Z = true) (ws : List Jvm.Cond) (a : Addr) (b : Addr) (kc : ClassId) (vs : List Value) (dv : Value) (h0 : Heap) (n0 : Nat) (O : Old Z n0 h0) (E : Exa Z h0 a "java/lang/String") (F1 : Fld Z h0 a "java/lang/String" "value" "[B" .null) (F2 : Fld Z h0 a "java/lang/String" "coder" "B" (.int (0 : Int32))) (ga : n0 ≤ a) (V : Arv Z h0 b kc .char (0 : Int32) vs dv) (hcH : Jvm.Lit.constHeld Z "java/lang/String" 7) (hcw : Jvm.Lit.compactW.before a0 Z = true) :
    MetFree l (⟨"java/lang/String", "<init>", "([C)V"⟩ : MethodName) (head1 (Jvm.Cond.code (⟨"java/lang/String", "<init>", "([C)V"⟩ : MethodName) jdk_42_method_3_code 2 none :: ws) ({ frames := 2, cells := 2, slots := 4, locals := 29 } : Room)) (fun as_ U => as_ = #[(.ref a), (.ref b)] ∧ Z.Warmed39 U.vm ∧ U.heap = h0 ∧ Em Z U.vm h0) (fun _ _ _ _ _ => True) (fun _ U oo_ U' => ∃ vv_ LL_, oo_ = .returned vv_ ∧ QSE1 Z a b kc vs dv h0 n0 vv_ U'.heap LL_ ∧ ReturnedEndW U oo_ U' LL_ ({ frames := 2, cells := 2, slots := 4, locals := 29 } : Room).cells ({ frames := 2, cells := 2, slots := 4, locals := 29 } : Room).slots ∧ Em Z U'.vm U'.heap) := by
  refine MetFree.of_bodySF (plainFor_of_name pn_1) hisR ?_
  intro p e s m args below meth c s₁ Bd hml0 hP hK
  obtain ⟨rfl, hZ, hh, M⟩ := hP
  have hx := Bd.exec
  have hby := Bd.bytes
  have hml : c.maxLocals = 2 := hml0
  have hown : s.vm.findClass "java/lang/String" = some m.cls := findClass_of_methodNamed Bd.named
  have hnm := (name_of_methodNamed Bd.named Bd.method).1
  have X0 : Stand p l e ({ frames := 2, cells := 2, slots := 4, locals := 29 } : Room) (s.setVm s.vm) m #[(.ref a), (.ref b)] below meth c s₁ [] 0 0 := Stand.of_body Bd
  have e0 : s₁.heap = h0 := by rw [← hh, Bd.state]; rfl
  have N := Fr.nil n0
  have hown : (s.setVm s.vm).vm.findClass "java/lang/String" = some m.cls := hown
  have hZ : Z.Warmed39 (s.setVm s.vm).vm := hZ
  have hS : s.Since s.vm h0.size := (State.WarmedH.refl s).since _
  have hk : h0.size ≤ h0.size := Nat.le_refl _
  have K : Keep h0 h0 [a] := Keep.refl h0 _
  refine own_go (B := s₁.setTop (mkF m 0 #[.val (.ref a), .val (.ref b)] [])) (fun t k => castTop (ef_SE1 m a b) k) ?_
  have KM : Keep h0 h0 [] := Keep.refl h0 _
  refine own_abs (fun P hfin => ?_)
  refine own_go (B := s₁.setTop (mkF m 4 #[.val (.ref a), .val (.ref b)] [(.ref b), (.int (0 : Int32)), (.ref b), (.ref a)])) (fun t k => ?_) ?_
  · show Steps p.tables e below (s₁.setTop (mkF m 0 #[.val (.ref a), .val (.ref b)] [])) _
    refine XS.aloadN X0.here hx rfl (hb hby d_jdk_42_method_3_0) rfl rfl ?_
    show Steps p.tables e below (s₁.setTop (mkF m 1 #[.val (.ref a), .val (.ref b)] [(.ref a)])) _
    refine XS.aloadN X0.here hx rfl (hb hby d_jdk_42_method_3_1) rfl rfl ?_
    show Steps p.tables e below (s₁.setTop (mkF m 2 #[.val (.ref a), .val (.ref b)] [(.ref b), (.ref a)])) _
    refine XS.iconst X0.here hx rfl (hb hby d_jdk_42_method_3_2) ?_
    show Steps p.tables e below (s₁.setTop (mkF m 3 #[.val (.ref a), .val (.ref b)] [(.int (0 : Int32)), (.ref b), (.ref a)])) _
    refine XS.aloadN X0.here hx rfl (hb hby d_jdk_42_method_3_3) rfl rfl ?_
    show Steps p.tables e below (s₁.setTop (mkF m 4 #[.val (.ref a), .val (.ref b)] [(.ref b), (.int (0 : Int32)), (.ref b), (.ref a)])) _
    exact k
  have st1 : ∀ target, Steps p.tables e below (s₁.setTop (mkF m 5 #[.val (.ref a), .val (.ref b)] [(.int (0 : Int32)), (.int (0 : Int32)), (.ref b), (.ref a)])) target → Steps p.tables e below (s₁.setTop (mkF m 4 #[.val (.ref a), .val (.ref b)] [(.ref b), (.int (0 : Int32)), (.ref b), (.ref a)])) target := by
    obtain ⟨cl, Ar, q, Sz, Nn, Hs, Gt⟩ := V
    intro target kt
    refine X0.arraylength hx (by rw [e0]; exact Ar.1) (State.isArrayOf_alike hZ.alike Ar.2.1) (g := (mkF m 4 #[.val (.ref a), .val (.ref b)] [(.ref b), (.int (0 : Int32)), (.ref b), (.ref a)])) rfl rfl (hb hby d_jdk_42_method_3_4) _ ?_
    rw [len_of Sz Nn]
    exact kt
  refine own_go (B := s₁.setTop (mkF m 5 #[.val (.ref a), .val (.ref b)] [(.int (0 : Int32)), (.int (0 : Int32)), (.ref b), (.ref a)])) st1 ?_
  refine own_go (B := s₁.setTop (mkF m 6 #[.val (.ref a), .val (.ref b)] [.null, (.int (0 : Int32)), (.int (0 : Int32)), (.ref b), (.ref a)])) (fun t k => ?_) ?_
  · show Steps p.tables e below (s₁.setTop (mkF m 5 #[.val (.ref a), .val (.ref b)] [(.int (0 : Int32)), (.int (0 : Int32)), (.ref b), (.ref a)])) _
    refine XS.aconstNull X0.here hx rfl (hb hby d_jdk_42_method_3_5) ?_
    show Steps p.tables e below (s₁.setTop (mkF m 6 #[.val (.ref a), .val (.ref b)] [.null, (.int (0 : Int32)), (.int (0 : Int32)), (.ref b), (.ref a)])) _
    exact k
  clear V
  -- pc 6: java/lang/String.<init>
  obtain ⟨_, _, ⟨T2, L2, k2, n2⟩, -, X2, hSq2, hgq2, ⟨Lc2, hQ2, l2, y2, z2⟩, st2⟩ := X0.specialBackS hx (y := (⟨"java/lang/String", "<init>", "([CIILjava/lang/Void;)V"⟩ : MethodName)) rfl hown (mvT hZ (hw _ (List.mem_of_getElem? (i := 17) rfl))) (mvT hZ (hw _ (List.mem_of_getElem? (i := 18) rfl))) (mvT hZ (hw _ (List.mem_of_getElem? (i := 20) rfl))) (by decide) (own_backOfE (W := 0) (rmSE2 l Z a0 hw [] a b h0 n0 O E F1 F2 ga hcH hcw) hZ (hw _ (List.mem_of_getElem? (i := 20) rfl)) (hw _ (List.mem_of_getElem? (i := 12) rfl)) (by decide) (by decide)) (g := (mkF m 6 #[.val (.ref a), .val (.ref b)] [.null, (.int (0 : Int32)), (.int (0 : Int32)), (.ref b), (.ref a)])) rfl (by rw [hml]; rfl) (Steps.refl _) (a := a) (argsL := [(.ref b), (.int (0 : Int32)), (.int (0 : Int32)), .null]) (rest := []) (lenOf pd_0 rfl) rfl (by show 2 * 0 + _ ≤ _; exact Nat.le_of_eq rfl) (hb hby d_jdk_42_method_3_6) (fun _ hWm => ⟨rfl, e0, (by decide : 0 + 2 ≤ _), (by decide : 0 + 4 ≤ _), Em.warm M hWm⟩)
  dsimp only [Pt.U, Pt.locs, Pt.cells, Pt.slots] at X2 l2 y2 z2 st2 hQ2 hSq2 hgq2
  subst l2 y2 z2
  obtain ⟨X2, hS, hZ, hown⟩ := rebS hS (by rw [e0]; exact hk) X2 hSq2 hgq2 hZ hown
  obtain ⟨⟨t2, k2, rfl, Nq2, Kq2, Gq2_0, Gq2_1, Gq2_2⟩, M⟩ := hQ2
  replace N := Fr.app N Nq2
  replace E := E.keep Kq2
  clear F1
  clear F2
  replace O := O.keep Kq2 (allS ga all0)
  replace K := K.trans Kq2 (allS (Or.inl (List.mem_of_getElem? (i := 0) rfl)) all0)
  have hk : T2.heap.size ≤ T2.heap.size := Nat.le_refl _
  have KM : Keep T2.heap T2.heap [] := Keep.refl _ _
  refine own_go (B := T2.setTop (mkF m 9 #[.val (.ref a), .val (.ref b)] [])) (fun t k => st2.trans k) ?_
  obtain ⟨fs, hr, hrun, hended, hEnd⟩ := X2.leaveW hS hk (v := none) (fun _ => rfl)
  refine ⟨_, _, X2.returnOut hx Bd.returns (hb hby d_jdk_42_method_3_9) hr, hfin _ _ ⟨hrun, hended, _, _, rfl, ?_, ⟨hEnd.1, hEnd.2.1, hEnd.2.2.1, hEnd.2.2.2.mono (by decide) (by decide)⟩, own_emR rfl (Em.warm M X2.warmed)⟩⟩
  show QSE1 Z a b kc vs dv h0 n0 _ T2.heap _
  exact ⟨t2, k2, rfl, N, K, Gq2_0, Gq2_1, Gq2_2⟩
def QCan (Z : State) (cc : Int32) (h0 : Heap) (n0 : Nat) (v : Option Value) (h : Heap) (L : List Loc) : Prop := v = some (.int (1 : Int32)) ∧ Fr n0 L ∧ h = h0
theorem ef_Can (m : MethodId) (cc : Int32) : entryFrame m #[(.int cc)] 1 = mkF m 0 #[.val (.int cc)] [] := by first | (simp [entryFrame, mkF, argsToLocals, Value.category]; done) | rfl | (rfl)
set_option maxRecDepth 65536 in
set_option maxHeartbeats 40000000 in
theorem rmCan (l : Launch) (Z : State) (a0 : Array Value) (hw : ∀ d ∈ tables_1, d.before a0 Z = true) (ws : List Jvm.Cond) (cc : Int32) (h0 : Heap) (n0 : Nat) (O : Old Z n0 h0) (hc : ¬ (255 : Int32) < cc) :
    MetFree l (⟨"java/lang/StringLatin1", "canEncode", "(C)Z"⟩ : MethodName) (head1 (Jvm.Cond.code (⟨"java/lang/StringLatin1", "canEncode", "(C)Z"⟩ : MethodName) jdk_43_method_3_code 1 (some .boolean) :: ws) ({ frames := 0, cells := 0, slots := 0, locals := 0 } : Room)) (fun as_ U => as_ = #[(.int cc)] ∧ Z.Warmed39 U.vm ∧ U.heap = h0) (fun _ _ _ _ _ => True) (fun _ U oo_ U' => ∃ vv_ LL_, oo_ = .returned vv_ ∧ QCan Z cc h0 n0 vv_ U'.heap LL_ ∧ FrameEnd U oo_ U' LL_ ({ frames := 0, cells := 0, slots := 0, locals := 0 } : Room).cells ({ frames := 0, cells := 0, slots := 0, locals := 0 } : Room).slots) := by
  refine MetFree.of_bodySF (plainFor_of_name pn_2) hisR ?_
  intro p e s m args below meth c s₁ Bd hml0 hP hK
  obtain ⟨rfl, hZ, hh⟩ := hP
  have hx := Bd.exec
  have hby := Bd.bytes
  have hml : c.maxLocals = 1 := hml0
  have hown : s.vm.findClass "java/lang/StringLatin1" = some m.cls := findClass_of_methodNamed Bd.named
  have hnm := (name_of_methodNamed Bd.named Bd.method).1
  have X0 : Stand p l e ({ frames := 0, cells := 0, slots := 0, locals := 0 } : Room) s m #[(.int cc)] below meth c s₁ [] 0 0 := Stand.of_body Bd
  have e0 : s₁.heap = h0 := by rw [← hh, Bd.state]; rfl
  have N := Fr.nil n0
  have K : Keep h0 h0 [] := Keep.refl h0 _
  refine own_go (B := s₁.setTop (mkF m 0 #[.val (.int cc)] [])) (fun t k => castTop (ef_Can m cc) k) ?_
  refine own_abs (fun P hfin => ?_)
  refine own_go (B := s₁.setTop (mkF m 12 #[.val (.int cc)] [(.int (1 : Int32))])) (fun t k => ?_) ?_
  · show Steps p.tables e below (s₁.setTop (mkF m 0 #[.val (.int cc)] [])) _
    refine XS.iloadN X0.here hx rfl (hb hby d_jdk_43_method_3_0) rfl ?_
    show Steps p.tables e below (s₁.setTop (mkF m 1 #[.val (.int cc)] [(.int cc)])) _
    refine XS.sipush X0.here hx rfl (hb hby d_jdk_43_method_3_1) ?_
    show Steps p.tables e below (s₁.setTop (mkF m 4 #[.val (.int cc)] [(.int (255 : Int32)), (.int cc)])) _
    refine XS.icmpNo X0.here hx rfl (hb hby d_jdk_43_method_3_4) rfl (flt hc).2.2.1 ?_
    show Steps p.tables e below (s₁.setTop (mkF m 7 #[.val (.int cc)] [])) _
    refine XS.iconst X0.here hx rfl (hb hby d_jdk_43_method_3_7) ?_
    show Steps p.tables e below (s₁.setTop (mkF m 8 #[.val (.int cc)] [(.int (1 : Int32))])) _
    refine XS.goto X0.here hx rfl (pc0 := 8) (pc' := 12) rfl (hb hby d_jdk_43_method_3_8) (by decide) (by decide) ?_
    show Steps p.tables e below (s₁.setTop (mkF m 12 #[.val (.int cc)] [(.int (1 : Int32))])) _
    exact k
  obtain ⟨fs, hr, hrun, hended, hW, hsame⟩ := X0.leave (v := some (.int (1 : Int32))) (fun h => by rw [Bd.returns] at h; cases h)
  refine ⟨_, _, retN X0 hx (t := .boolean) Bd.returns (by simp) (hb hby d_jdk_43_method_3_12) hr, hfin _ _ ⟨hrun, hended, _, _, rfl, ?_, ⟨_, rfl⟩, hW, hsame.mono (by decide) (by decide)⟩⟩
  show QCan Z cc h0 n0 _ s₁.heap _
  exact ⟨rfl, N, e0⟩
def QToB (Z : State) (cc : Int32) (h0 : Heap) (n0 : Nat) (v : Option Value) (h : Heap) (L : List Loc) : Prop := ∃ r : Addr, ∃ k : ClassId, v = some (.ref r) ∧ Fr n0 L ∧ Keep h0 h [] ∧ h0.size ≤ r ∧ Arv Z h r k .byte (1 : Int32) (own_bs [cc]) (.int (0 : Int32))
theorem ef_ToB (m : MethodId) (cc : Int32) : entryFrame m #[(.int cc)] 1 = mkF m 0 #[.val (.int cc)] [] := by first | (simp [entryFrame, mkF, argsToLocals, Value.category]; done) | rfl | (rfl)
set_option maxRecDepth 65536 in
set_option maxHeartbeats 40000000 in
theorem rmToB (l : Launch) (Z : State) (a0 : Array Value) (hw : ∀ d ∈ tables_1, d.before a0 Z = true) (ws : List Jvm.Cond) (cc : Int32) (h0 : Heap) (n0 : Nat) (O : Old Z n0 h0)  :
    MetFree l (⟨"java/lang/StringLatin1", "toBytes", "(C)[B"⟩ : MethodName) (head1 (Jvm.Cond.code (⟨"java/lang/StringLatin1", "toBytes", "(C)[B"⟩ : MethodName) jdk_43_method_46_code 1 (some (.array .byte)) :: ws) ({ frames := 0, cells := 1, slots := 1, locals := 0 } : Room)) (fun as_ U => as_ = #[(.int cc)] ∧ Z.Warmed39 U.vm ∧ U.heap = h0) (fun _ _ _ _ _ => True) (fun _ U oo_ U' => ∃ vv_ LL_, oo_ = .returned vv_ ∧ QToB Z cc h0 n0 vv_ U'.heap LL_ ∧ FrameEnd U oo_ U' LL_ ({ frames := 0, cells := 1, slots := 1, locals := 0 } : Room).cells ({ frames := 0, cells := 1, slots := 1, locals := 0 } : Room).slots) := by
  refine MetFree.of_bodySF (plainFor_of_name pn_2) hisR ?_
  intro p e s m args below meth c s₁ Bd hml0 hP hK
  obtain ⟨rfl, hZ, hh⟩ := hP
  have hx := Bd.exec
  have hby := Bd.bytes
  have hml : c.maxLocals = 1 := hml0
  have hown : s.vm.findClass "java/lang/StringLatin1" = some m.cls := findClass_of_methodNamed Bd.named
  have hnm := (name_of_methodNamed Bd.named Bd.method).1
  have X0 : Stand p l e ({ frames := 0, cells := 1, slots := 1, locals := 0 } : Room) s m #[(.int cc)] below meth c s₁ [] 0 0 := Stand.of_body Bd
  have e0 : s₁.heap = h0 := by rw [← hh, Bd.state]; rfl
  have N := Fr.nil n0
  have K : Keep h0 h0 [] := Keep.refl h0 _
  refine own_go (B := s₁.setTop (mkF m 0 #[.val (.int cc)] [])) (fun t k => castTop (ef_ToB m cc) k) ?_
  refine own_abs (fun P hfin => ?_)
  refine own_go (B := s₁.setTop (mkF m 1 #[.val (.int cc)] [(.int (1 : Int32))])) (fun t k => ?_) ?_
  · show Steps p.tables e below (s₁.setTop (mkF m 0 #[.val (.int cc)] [])) _
    refine XS.iconst X0.here hx rfl (hb hby d_jdk_43_method_46_0) ?_
    show Steps p.tables e below (s₁.setTop (mkF m 1 #[.val (.int cc)] [(.int (1 : Int32))])) _
    exact k
  obtain ⟨T1, h1, k1, X1, e1, E1, A1, G1, st1⟩ := newPE X0 hx hZ (hw _ (List.mem_of_getElem? (i := 25) rfl)) e0 (g := (mkF m 1 #[.val (.int cc)] [(.int (1 : Int32))])) rfl (hb hby d_jdk_43_method_46_1) rfl (by decide) (cap := 1) (by decide) (by decide) (by decide) (by decide) (ad := "[B") (by decide)
  obtain ⟨b1, g1⟩ : ∃ z, z = h0.size := ⟨_, rfl⟩
  rw [← g1] at A1 G1 st1
  have g_b1 : n0 ≤ b1 := Nat.le_trans (own_oldsz O) (Nat.le_of_eq g1.symm)
  have s_b1 : h0.size ≤ b1 := Nat.le_trans K.1 (Nat.le_of_eq g1.symm)
  replace O := O.ext E1
  replace K := K.ext E1
  have V1 : Arv Z h1 b1 k1 .byte (1 : Int32) [(.int (0 : Int32))] (.int (0 : Int32)) := (Arv.new A1 (by decide)).pad (pad_rep [] (.int (0 : Int32)) 1)
  refine own_go (B := T1.setTop (mkF m 3 #[.val (.int cc)] [(.ref b1)])) st1 ?_
  refine own_go (B := T1.setTop (mkF m 7 #[.val (.int cc)] [(.int (cc.toInt8.toInt32)), (.int (0 : Int32)), (.ref b1), (.ref b1)])) (fun t k => ?_) ?_
  · show Steps p.tables e below (T1.setTop (mkF m 3 #[.val (.int cc)] [(.ref b1)])) _
    refine XS.dup X1.here hx rfl (hb hby d_jdk_43_method_46_3) rfl rfl ?_
    show Steps p.tables e below (T1.setTop (mkF m 4 #[.val (.int cc)] [(.ref b1), (.ref b1)])) _
    refine XS.iconst X1.here hx rfl (hb hby d_jdk_43_method_46_4) ?_
    show Steps p.tables e below (T1.setTop (mkF m 5 #[.val (.int cc)] [(.int (0 : Int32)), (.ref b1), (.ref b1)])) _
    refine XS.iloadN X1.here hx rfl (hb hby d_jdk_43_method_46_5) rfl ?_
    show Steps p.tables e below (T1.setTop (mkF m 6 #[.val (.int cc)] [(.int cc), (.int (0 : Int32)), (.ref b1), (.ref b1)])) _
    refine XS.i2b X1.here hx rfl (hb hby d_jdk_43_method_46_6) rfl ?_
    show Steps p.tables e below (T1.setTop (mkF m 7 #[.val (.int cc)] [(.int (cc.toInt8.toInt32)), (.int (0 : Int32)), (.ref b1), (.ref b1)])) _
    exact k
  obtain ⟨cl2, Ar2, q2, Sz2, Nn2, Hs2, Gt2⟩ := V1
  have hin2 : ¬ ((0 : Int32) < 0 ∨ cl2.slots.size ≤ ((0 : Int32)).toNatClampNeg) := inb_of Sz2 ⟨by decide, by decide⟩
  obtain ⟨T2, h2, X2, e2, W2, st2⟩ := stB X1 hx hZ e1 Ar2 (j := (0 : Int32)) hin2 (g := (mkF m 7 #[.val (.int cc)] [(.int (cc.toInt8.toInt32)), (.int (0 : Int32)), (.ref b1), (.ref b1)])) rfl rfl (hb hby d_jdk_43_method_46_7)
  have V2 := Arv.set Ar2 q2 Sz2 Nn2 Hs2 Gt2 (fits_nar_byte _) W2 0 rfl (Nat.le_of_ble_eq_true rfl)
  rw [own_nb2] at V2
  have V2 : Arv Z h2 b1 k1 .byte (1 : Int32) [(.int cc.toInt8.toInt32)] (.int (0 : Int32)) := V2
  replace G1 := G1.wr W2
  replace O := O.wr W2 g_b1
  replace K := K.wr W2 (Or.inr s_b1)
  replace N := Fr.snoc X2 N g_b1
  refine own_go (B := T2.setTop (mkF m 8 #[.val (.int cc)] [(.ref b1)])) st2 ?_
  obtain ⟨fs, hr, hrun, hended, hW, hsame⟩ := X2.leave (v := some (.ref b1)) (fun h => by rw [Bd.returns] at h; cases h)
  refine ⟨_, _, own_retA X2 hx rfl Bd.returns rfl (hb hby d_jdk_43_method_46_8) hr, hfin _ _ ⟨hrun, hended, _, _, rfl, ?_, ⟨_, rfl⟩, hW, hsame.mono (by decide) (by decide)⟩⟩
  show QToB Z cc h0 n0 _ T2.heap _
  rw [e2]
  exact ⟨b1, k1, rfl, N, K, s_b1, V2⟩
def QSBB (Z : State) (a : Addr) (b : Addr) (h0 : Heap) (n0 : Nat) (v : Option Value) (h : Heap) (L : List Loc) : Prop := v = none ∧ Fr n0 L ∧ Keep h0 h [a] ∧ Fld Z h a "java/lang/String" "value" "[B" (.ref b) ∧ Fld Z h a "java/lang/String" "coder" "B" (.int (0 : Int32))
theorem ef_SBB (m : MethodId) (a : Addr) (b : Addr) : entryFrame m #[(.ref a), (.ref b), (.int (0 : Int32))] 3 = mkF m 0 #[.val (.ref a), .val (.ref b), .val (.int (0 : Int32))] [] := by first | (simp [entryFrame, mkF, argsToLocals, Value.category]; done) | rfl | (rfl)
set_option maxRecDepth 65536 in
set_option maxHeartbeats 40000000 in
theorem rmSBB (l : Launch) (Z : State) (a0 : Array Value) (hw : ∀ d ∈ tables_1, d.before a0 Z = true) (ws : List Jvm.Cond) (a : Addr) (b : Addr) (h0 : Heap) (n0 : Nat) (O : Old Z n0 h0) (E : Exa Z h0 a "java/lang/String") (F1 : Fld Z h0 a "java/lang/String" "value" "[B" .null) (F2 : Fld Z h0 a "java/lang/String" "coder" "B" (.int (0 : Int32))) (ga : n0 ≤ a) :
    MetFree l (⟨"java/lang/String", "<init>", "([BB)V"⟩ : MethodName) (head1 (Jvm.Cond.code (⟨"java/lang/String", "<init>", "([BB)V"⟩ : MethodName) jdk_42_method_151_code 3 none :: ws) ({ frames := 1, cells := 0, slots := 0, locals := 12 } : Room)) (fun as_ U => as_ = #[(.ref a), (.ref b), (.int (0 : Int32))] ∧ Z.Warmed39 U.vm ∧ U.heap = h0) (fun _ _ _ _ _ => True) (fun _ U oo_ U' => ∃ vv_ LL_, oo_ = .returned vv_ ∧ QSBB Z a b h0 n0 vv_ U'.heap LL_ ∧ FrameEnd U oo_ U' LL_ ({ frames := 1, cells := 0, slots := 0, locals := 12 } : Room).cells ({ frames := 1, cells := 0, slots := 0, locals := 12 } : Room).slots) := by
  refine MetFree.of_bodySF (plainFor_of_name pn_1) hisR ?_
  intro p e s m args below meth c s₁ Bd hml0 hP hK
  obtain ⟨rfl, hZ, hh⟩ := hP
  have hx := Bd.exec
  have hby := Bd.bytes
  have hml : c.maxLocals = 3 := hml0
  have hown : s.vm.findClass "java/lang/String" = some m.cls := findClass_of_methodNamed Bd.named
  have hnm := (name_of_methodNamed Bd.named Bd.method).1
  have X0 : Stand p l e ({ frames := 1, cells := 0, slots := 0, locals := 12 } : Room) s m #[(.ref a), (.ref b), (.int (0 : Int32))] below meth c s₁ [] 0 0 := Stand.of_body Bd
  have e0 : s₁.heap = h0 := by rw [← hh, Bd.state]; rfl
  have N := Fr.nil n0
  have K : Keep h0 h0 [a] := Keep.refl h0 _
  refine own_go (B := s₁.setTop (mkF m 0 #[.val (.ref a), .val (.ref b), .val (.int (0 : Int32))] [])) (fun t k => castTop (ef_SBB m a b) k) ?_
  refine own_abs (fun P hfin => ?_)
  refine own_go (B := s₁.setTop (mkF m 1 #[.val (.ref a), .val (.ref b), .val (.int (0 : Int32))] [(.ref a)])) (fun t k => ?_) ?_
  · show Steps p.tables e below (s₁.setTop (mkF m 0 #[.val (.ref a), .val (.ref b), .val (.int (0 : Int32))] [])) _
    refine XS.aloadN X0.here hx rfl (hb hby d_jdk_42_method_151_0) rfl rfl ?_
    show Steps p.tables e below (s₁.setTop (mkF m 1 #[.val (.ref a), .val (.ref b), .val (.int (0 : Int32))] [(.ref a)])) _
    exact k
  obtain ⟨T1, X1, e1, st1⟩ := initO X0 hx hZ hown (hw _ (List.mem_of_getElem? (i := 21) rfl)) (hw _ (List.mem_of_getElem? (i := 22) rfl)) (hw _ (List.mem_of_getElem? (i := 23) rfl)) e0 (g := (mkF m 1 #[.val (.ref a), .val (.ref b), .val (.int (0 : Int32))] [(.ref a)])) rfl (by rw [hml]; rfl) rfl (hb hby d_jdk_42_method_151_1) (by decide) (W := 0) (by show 2 * 0 + _ ≤ _; exact Nat.le_of_eq rfl) (by decide)
  refine own_go (B := T1.setTop (mkF m 4 #[.val (.ref a), .val (.ref b), .val (.int (0 : Int32))] [])) st1 ?_
  refine own_go (B := T1.setTop (mkF m 6 #[.val (.ref a), .val (.ref b), .val (.int (0 : Int32))] [(.ref b), (.ref a)])) (fun t k => ?_) ?_
  · show Steps p.tables e below (T1.setTop (mkF m 4 #[.val (.ref a), .val (.ref b), .val (.int (0 : Int32))] [])) _
    refine XS.aloadN X1.here hx rfl (hb hby d_jdk_42_method_151_4) rfl rfl ?_
    show Steps p.tables e below (T1.setTop (mkF m 5 #[.val (.ref a), .val (.ref b), .val (.int (0 : Int32))] [(.ref a)])) _
    refine XS.aloadN X1.here hx rfl (hb hby d_jdk_42_method_151_5) rfl rfl ?_
    show Steps p.tables e below (T1.setTop (mkF m 6 #[.val (.ref a), .val (.ref b), .val (.int (0 : Int32))] [(.ref b), (.ref a)])) _
    exact k
  obtain ⟨T2, h2, X2, e2, W2, st2⟩ := putF X1 hx hZ hown (host := "") (Or.inl (hw _ (List.mem_of_getElem? (i := 30) rfl))) Via.refl e1 F1 E (Or.inr ⟨(hw _ (List.mem_of_getElem? (i := 26) rfl)), rfl, hnm⟩) (hw _ (List.mem_of_getElem? (i := 11) rfl)) (ty := (.array .byte)) (by decide) rfl rfl (g := (mkF m 6 #[.val (.ref a), .val (.ref b), .val (.int (0 : Int32))] [(.ref b), (.ref a)])) rfl rfl (hb hby d_jdk_42_method_151_6)
  have Fw2 := F1.same W2
  replace E := E.wr W2
  clear F1
  replace F2 := F2.other W2 (Or.inr (slot_ne (Or.inr (hw _ (List.mem_of_getElem? (i := 27) rfl))) (Or.inr (hw _ (List.mem_of_getElem? (i := 26) rfl))) (by decide) (t := .byte) (t' := (.array .byte)) (by decide) (by decide)))
  replace O := O.wr W2 ga
  replace K := K.wr W2 (Or.inl (List.mem_of_getElem? (i := 0) rfl))
  replace N := Fr.snoc X2 N ga
  refine own_go (B := T2.setTop (mkF m 9 #[.val (.ref a), .val (.ref b), .val (.int (0 : Int32))] [])) st2 ?_
  refine own_go (B := T2.setTop (mkF m 11 #[.val (.ref a), .val (.ref b), .val (.int (0 : Int32))] [(.int (0 : Int32)), (.ref a)])) (fun t k => ?_) ?_
  · show Steps p.tables e below (T2.setTop (mkF m 9 #[.val (.ref a), .val (.ref b), .val (.int (0 : Int32))] [])) _
    refine XS.aloadN X2.here hx rfl (hb hby d_jdk_42_method_151_9) rfl rfl ?_
    show Steps p.tables e below (T2.setTop (mkF m 10 #[.val (.ref a), .val (.ref b), .val (.int (0 : Int32))] [(.ref a)])) _
    refine XS.iloadN X2.here hx rfl (hb hby d_jdk_42_method_151_10) rfl ?_
    show Steps p.tables e below (T2.setTop (mkF m 11 #[.val (.ref a), .val (.ref b), .val (.int (0 : Int32))] [(.int (0 : Int32)), (.ref a)])) _
    exact k
  obtain ⟨T3, h3, X3, e3, W3, st3⟩ := putFN X2 hx hZ hown (hw _ (List.mem_of_getElem? (i := 31) rfl)) Via.refl e2 F2 E (Or.inr ⟨(hw _ (List.mem_of_getElem? (i := 27) rfl)), rfl, hnm⟩) (hw _ (List.mem_of_getElem? (i := 11) rfl)) (ty := .byte) (v' := (.int (0 : Int32))) (by decide) rfl rfl (g := (mkF m 11 #[.val (.ref a), .val (.ref b), .val (.int (0 : Int32))] [(.int (0 : Int32)), (.ref a)])) rfl rfl (hb hby d_jdk_42_method_151_11)
  have Fw3 := F2.same W3
  replace E := E.wr W3
  clear F2
  replace Fw2 := Fw2.other W3 (Or.inr (slot_ne (Or.inr (hw _ (List.mem_of_getElem? (i := 26) rfl))) (Or.inr (hw _ (List.mem_of_getElem? (i := 27) rfl))) (by decide) (t := (.array .byte)) (t' := .byte) (by decide) (by decide)))
  replace O := O.wr W3 ga
  replace K := K.wr W3 (Or.inl (List.mem_of_getElem? (i := 0) rfl))
  replace N := Fr.snoc X3 N ga
  refine own_go (B := T3.setTop (mkF m 14 #[.val (.ref a), .val (.ref b), .val (.int (0 : Int32))] [])) st3 ?_
  obtain ⟨fs, hr, hrun, hended, hW, hsame⟩ := X3.leave (v := none) (fun _ => rfl)
  refine ⟨_, _, X3.returnOut hx Bd.returns (hb hby d_jdk_42_method_151_14) hr, hfin _ _ ⟨hrun, hended, _, _, rfl, ?_, ⟨_, rfl⟩, hW, hsame.mono (by decide) (by decide)⟩⟩
  show QSBB Z a b h0 n0 _ T3.heap _
  rw [e3]
  exact ⟨rfl, N, K, Fw2, Fw3⟩
def QVO (Z : State) (cc : Int32) (zc : Int32) (h0 : Heap) (n0 : Nat) (v : Option Value) (h : Heap) (L : List Loc) : Prop := ∃ r : Addr, ∃ t : Addr, ∃ k : ClassId, v = some (.ref r) ∧ Fr n0 L ∧ Keep h0 h [] ∧ h0.size ≤ r ∧ h0.size ≤ t ∧ Exa Z h r "java/lang/String" ∧ Fld Z h r "java/lang/String" "coder" "B" (.int (0 : Int32)) ∧ Fld Z h r "java/lang/String" "value" "[B" (.ref t) ∧ Arv Z h t k .byte (1 : Int32) (own_bs [cc]) (.int (0 : Int32))
theorem ef_VO (m : MethodId) (cc : Int32) : entryFrame m #[(.int cc)] 1 = mkF m 0 #[.val (.int cc)] [] := by first | (simp [entryFrame, mkF, argsToLocals, Value.category]; done) | rfl | (rfl)
set_option maxRecDepth 65536 in
set_option maxHeartbeats 40000000 in
theorem rmVO (l : Launch) (Z : State) (a0 : Array Value) (hw : ∀ d ∈ tables_1, d.before a0 Z = true) (ws : List Jvm.Cond) (cc : Int32) (zc : Int32) (h0 : Heap) (n0 : Nat) (O : Old Z n0 h0) (S_C : Sta Z Z.heap "java/lang/String" "COMPACT_STRINGS" "Z" (.int zc)) (hc : ¬ (255 : Int32) < cc) (hcs : ¬ zc = (0 : Int32)) :
    MetFree l (⟨"java/lang/String", "valueOf", "(C)Ljava/lang/String;"⟩ : MethodName) (head1 (Jvm.Cond.code (⟨"java/lang/String", "valueOf", "(C)Ljava/lang/String;"⟩ : MethodName) jdk_42_method_139_code 1 (some (.object "java/lang/String")) :: ws) ({ frames := 2, cells := 2, slots := 5, locals := 27 } : Room)) (fun as_ U => as_ = #[(.int cc)] ∧ Z.Warmed39 U.vm ∧ U.heap = h0) (fun _ _ _ _ _ => True) (fun _ U oo_ U' => ∃ vv_ LL_, oo_ = .returned vv_ ∧ QVO Z cc zc h0 n0 vv_ U'.heap LL_ ∧ FrameEnd U oo_ U' LL_ ({ frames := 2, cells := 2, slots := 5, locals := 27 } : Room).cells ({ frames := 2, cells := 2, slots := 5, locals := 27 } : Room).slots) := by
  refine MetFree.of_bodySF (plainFor_of_name pn_1) hisR ?_
  intro p e s m args below meth c s₁ Bd hml0 hP hK
  obtain ⟨rfl, hZ, hh⟩ := hP
  have hx := Bd.exec
  have hby := Bd.bytes
  have hml : c.maxLocals = 1 := hml0
  have hown : s.vm.findClass "java/lang/String" = some m.cls := findClass_of_methodNamed Bd.named
  have hnm := (name_of_methodNamed Bd.named Bd.method).1
  have X0 : Stand p l e ({ frames := 2, cells := 2, slots := 5, locals := 27 } : Room) s m #[(.int cc)] below meth c s₁ [] 0 0 := Stand.of_body Bd
  have e0 : s₁.heap = h0 := by rw [← hh, Bd.state]; rfl
  have N := Fr.nil n0
  have K : Keep h0 h0 [] := Keep.refl h0 _
  refine own_go (B := s₁.setTop (mkF m 0 #[.val (.int cc)] [])) (fun t k => castTop (ef_VO m cc) k) ?_
  refine own_abs (fun P hfin => ?_)
  obtain ⟨T1, X1, e1, st1⟩ := getS2 X0 hx hZ hown (host := "") (Or.inl (hw _ (List.mem_of_getElem? (i := 54) rfl))) Via.refl e0 (S_C.ext O.2) (g := (mkF m 0 #[.val (.int cc)] [])) rfl (hb hby d_jdk_42_method_139_0)
  refine own_go (B := T1.setTop (mkF m 3 #[.val (.int cc)] [(.int zc)])) st1 ?_
  refine own_go (B := T1.setTop (mkF m 7 #[.val (.int cc)] [(.int cc)])) (fun t k => ?_) ?_
  · show Steps p.tables e below (T1.setTop (mkF m 3 #[.val (.int cc)] [(.int zc)])) _
    refine XS.ifNo X1.here hx rfl (hb hby d_jdk_42_method_139_3) rfl ((if0 _ _).trans (feq hcs).1) ?_
    show Steps p.tables e below (T1.setTop (mkF m 6 #[.val (.int cc)] [])) _
    refine XS.iloadN X1.here hx rfl (hb hby d_jdk_42_method_139_6) rfl ?_
    show Steps p.tables e below (T1.setTop (mkF m 7 #[.val (.int cc)] [(.int cc)])) _
    exact k
  -- pc 7: java/lang/StringLatin1.canEncode
  obtain ⟨_, _, ⟨T2, L2, k2, n2⟩, -, X2, ⟨Lc2, hQ2, l2, y2, z2⟩, st2⟩ := Jvm.LawKit.callS X1 hx (y := (⟨"java/lang/StringLatin1", "canEncode", "(C)Z"⟩ : MethodName)) hown (mvT hZ (hw _ (List.mem_of_getElem? (i := 68) rfl))) (mvT hZ (hw _ (List.mem_of_getElem? (i := 69) rfl))) (mvT hZ (hw _ (List.mem_of_getElem? (i := 70) rfl))) (mvT hZ (hw _ (List.mem_of_getElem? (i := 71) rfl))) (by decide) (backOf (W := 0) (rmCan l Z a0 hw [] cc h0 n0 O hc) hZ (hw _ (List.mem_of_getElem? (i := 71) rfl)) (hw _ (List.mem_of_getElem? (i := 70) rfl)) (by decide) (by decide)) (g := (mkF m 7 #[.val (.int cc)] [(.int cc)])) rfl (by rw [hml]; rfl) (argsL := [(.int cc)]) (rest := []) (lenOf pd_1 rfl) rfl (by show 2 * 0 + _ ≤ _; exact Nat.le_of_eq rfl) (hb hby d_jdk_42_method_139_7) (fun _ hWm => ⟨rfl, e1, (by decide : 0 + 0 ≤ _), (by decide : 0 + 0 ≤ _)⟩)
  dsimp only [Pt.U, Pt.locs, Pt.cells, Pt.slots] at X2 l2 y2 z2 st2 hQ2
  subst l2 y2 z2
  obtain ⟨rfl, Nq2, Kq2⟩ := hQ2
  replace N := Fr.app N Nq2
  refine own_go (B := T2.setTop (mkF m 10 #[.val (.int cc)] [(.int (1 : Int32))])) st2 ?_
  refine own_go (B := T2.setTop (mkF m 13 #[.val (.int cc)] [])) (fun t k => ?_) ?_
  · show Steps p.tables e below (T2.setTop (mkF m 10 #[.val (.int cc)] [(.int (1 : Int32))])) _
    refine XS.ifNo X2.here hx rfl (hb hby d_jdk_42_method_139_10) rfl ((if0 _ _).trans (feq (by decide)).1) ?_
    show Steps p.tables e below (T2.setTop (mkF m 13 #[.val (.int cc)] [])) _
    exact k
  obtain ⟨T3, h3, X3, e3, E3, A3, D3, -, st3⟩ := newO X2 hx hZ hown (hw _ (List.mem_of_getElem? (i := 72) rfl)) (hw _ (List.mem_of_getElem? (i := 11) rfl)) (hw _ (List.mem_of_getElem? (i := 12) rfl)) Kq2 (g := (mkF m 13 #[.val (.int cc)] [])) rfl (hb hby d_jdk_42_method_139_13) (by decide) (by decide)
  obtain ⟨b3, g3⟩ : ∃ z, z = h0.size := ⟨_, rfl⟩
  rw [← g3] at A3 D3 st3
  have g_b3 : n0 ≤ b3 := Nat.le_trans (own_oldsz O) (Nat.le_of_eq g3.symm)
  have s_b3 : h0.size ≤ b3 := Nat.le_trans K.1 (Nat.le_of_eq g3.symm)
  replace O := O.ext E3
  replace K := K.ext E3
  have F3_value : Fld Z h3 b3 "java/lang/String" "value" "[B" .null := D3 (Or.inr (hw _ (List.mem_of_getElem? (i := 26) rfl))) (ty := (.array .byte)) (by decide)
  have F3_coder : Fld Z h3 b3 "java/lang/String" "coder" "B" (.int (0 : Int32)) := D3 (Or.inr (hw _ (List.mem_of_getElem? (i := 27) rfl))) (ty := .byte) (by decide)
  refine own_go (B := T3.setTop (mkF m 16 #[.val (.int cc)] [(.ref b3)])) st3 ?_
  refine own_go (B := T3.setTop (mkF m 18 #[.val (.int cc)] [(.int cc), (.ref b3), (.ref b3)])) (fun t k => ?_) ?_
  · show Steps p.tables e below (T3.setTop (mkF m 16 #[.val (.int cc)] [(.ref b3)])) _
    refine XS.dup X3.here hx rfl (hb hby d_jdk_42_method_139_16) rfl rfl ?_
    show Steps p.tables e below (T3.setTop (mkF m 17 #[.val (.int cc)] [(.ref b3), (.ref b3)])) _
    refine XS.iloadN X3.here hx rfl (hb hby d_jdk_42_method_139_17) rfl ?_
    show Steps p.tables e below (T3.setTop (mkF m 18 #[.val (.int cc)] [(.int cc), (.ref b3), (.ref b3)])) _
    exact k
  -- pc 18: java/lang/StringLatin1.toBytes
  obtain ⟨_, _, ⟨T4, L4, k4, n4⟩, -, X4, ⟨Lc4, hQ4, l4, y4, z4⟩, st4⟩ := Jvm.LawKit.callS X3 hx (y := (⟨"java/lang/StringLatin1", "toBytes", "(C)[B"⟩ : MethodName)) hown (mvT hZ (hw _ (List.mem_of_getElem? (i := 73) rfl))) (mvT hZ (hw _ (List.mem_of_getElem? (i := 74) rfl))) (mvT hZ (hw _ (List.mem_of_getElem? (i := 70) rfl))) (mvT hZ (hw _ (List.mem_of_getElem? (i := 75) rfl))) (by decide) (backOf (W := 2) (rmToB l Z a0 hw [] cc h3 n0 O ) hZ (hw _ (List.mem_of_getElem? (i := 75) rfl)) (hw _ (List.mem_of_getElem? (i := 70) rfl)) (by decide) (by decide)) (g := (mkF m 18 #[.val (.int cc)] [(.int cc), (.ref b3), (.ref b3)])) rfl (by rw [hml]; rfl) (argsL := [(.int cc)]) (rest := [(.ref b3), (.ref b3)]) (lenOf pd_2 rfl) rfl (by show 2 * 0 + _ ≤ _; exact Nat.le_of_eq rfl) (hb hby d_jdk_42_method_139_18) (fun _ hWm => ⟨rfl, e3, (by decide : 1 + 1 ≤ _), (by decide : 4 + 1 ≤ _)⟩)
  dsimp only [Pt.U, Pt.locs, Pt.cells, Pt.slots] at X4 l4 y4 z4 st4 hQ4
  subst l4 y4 z4
  obtain ⟨r4, k4, rfl, Nq4, Kq4, fq4_r, Gq4_0⟩ := hQ4
  replace N := Fr.app N Nq4
  have lt_b3_r4 : b3 < r4 := Nat.lt_of_lt_of_le A3.lt fq4_r
  have g_r4 : n0 ≤ r4 := Nat.le_trans (own_oldsz O) fq4_r
  have s_r4 : h0.size ≤ r4 := Nat.le_trans K.1 fq4_r
  replace A3 := A3.keep Kq4
  replace F3_value := F3_value.keep Kq4 nin0
  replace F3_coder := F3_coder.keep Kq4 nin0
  replace O := O.keep Kq4 all0
  replace K := K.trans Kq4 all0
  refine own_go (B := T4.setTop (mkF m 21 #[.val (.int cc)] [(.ref r4), (.ref b3), (.ref b3)])) st4 ?_
  refine own_go (B := T4.setTop (mkF m 22 #[.val (.int cc)] [(.int (0 : Int32)), (.ref r4), (.ref b3), (.ref b3)])) (fun t k => ?_) ?_
  · show Steps p.tables e below (T4.setTop (mkF m 21 #[.val (.int cc)] [(.ref r4), (.ref b3), (.ref b3)])) _
    refine XS.iconst X4.here hx rfl (hb hby d_jdk_42_method_139_21) ?_
    show Steps p.tables e below (T4.setTop (mkF m 22 #[.val (.int cc)] [(.int (0 : Int32)), (.ref r4), (.ref b3), (.ref b3)])) _
    exact k
  -- pc 22: java/lang/String.<init>
  obtain ⟨_, _, ⟨T5, L5, k5, n5⟩, -, X5, ⟨Lc5, hQ5, l5, y5, z5⟩, st5⟩ := X4.specialBack hx (y := (⟨"java/lang/String", "<init>", "([BB)V"⟩ : MethodName)) rfl hown (mvT hZ (hw _ (List.mem_of_getElem? (i := 76) rfl))) (mvT hZ (hw _ (List.mem_of_getElem? (i := 77) rfl))) (mvT hZ (hw _ (List.mem_of_getElem? (i := 78) rfl))) (by decide) (backOf (W := 1) (rmSBB l Z a0 hw [] b3 r4 T4.heap n0 O A3 F3_value F3_coder g_b3) hZ (hw _ (List.mem_of_getElem? (i := 78) rfl)) (hw _ (List.mem_of_getElem? (i := 12) rfl)) (by decide) (by decide)) (g := (mkF m 22 #[.val (.int cc)] [(.int (0 : Int32)), (.ref r4), (.ref b3), (.ref b3)])) rfl (by rw [hml]; rfl) (Steps.refl _) (a := b3) (argsL := [(.ref r4), (.int (0 : Int32))]) (rest := [(.ref b3)]) (lenOf pd_3 rfl) rfl (by show 2 * 0 + _ ≤ _; exact Nat.le_of_eq rfl) (hb hby d_jdk_42_method_139_22) (fun _ hWm => ⟨rfl, rfl, (by decide : 2 + 0 ≤ _), (by decide : 5 + 0 ≤ _)⟩)
  dsimp only [Pt.U, Pt.locs, Pt.cells, Pt.slots] at X5 l5 y5 z5 st5 hQ5
  subst l5 y5 z5
  obtain ⟨rfl, Nq5, Kq5, Gq5_0, Gq5_1⟩ := hQ5
  replace N := Fr.app N Nq5
  replace A3 := A3.keep Kq5
  clear F3_value
  clear F3_coder
  replace Gq4_0 := Gq4_0.keep Kq5 (ninS (Nat.ne_of_gt lt_b3_r4) nin0)
  replace O := O.keep Kq5 (allS g_b3 all0)
  replace K := K.trans Kq5 (allS (Or.inr s_b3) all0)
  refine own_go (B := T5.setTop (mkF m 25 #[.val (.int cc)] [(.ref b3)])) (fun t k => st5.trans k) ?_
  obtain ⟨fs, hr, hrun, hended, hW, hsame⟩ := X5.leave (v := some (.ref b3)) (fun h => by rw [Bd.returns] at h; cases h)
  refine ⟨_, _, own_retA X5 hx rfl Bd.returns rfl (hb hby d_jdk_42_method_139_25) hr, hfin _ _ ⟨hrun, hended, _, _, rfl, ?_, ⟨_, rfl⟩, hW, hsame.mono (by decide) (by decide)⟩⟩
  show QVO Z cc zc h0 n0 _ T5.heap _
  exact ⟨b3, r4, k4, rfl, N, K, s_b3, s_r4, A3, Gq5_1, Gq5_0, Gq4_0⟩
def QMin (Z : State) (p1 : Int32) (p2 : Int32) (h0 : Heap) (n0 : Nat) (v : Option Value) (h : Heap) (L : List Loc) : Prop := ∃ b : Int32, v = some (.int b) ∧ Fr n0 L ∧ h = h0 ∧ (b = if p2 < p1 then p2 else p1)
theorem ef_Min (m : MethodId) (p1 : Int32) (p2 : Int32) : entryFrame m #[(.int p1), (.int p2)] 2 = mkF m 0 #[.val (.int p1), .val (.int p2)] [] := by first | (simp [entryFrame, mkF, argsToLocals, Value.category]; done) | rfl | (rfl)
set_option maxRecDepth 65536 in
set_option maxHeartbeats 40000000 in
theorem rmMin (l : Launch) (Z : State) (a0 : Array Value) (hw : ∀ d ∈ tables_1, d.before a0 Z = true) (ws : List Jvm.Cond) (p1 : Int32) (p2 : Int32) (h0 : Heap) (n0 : Nat) (O : Old Z n0 h0)  :
    MetFree l (⟨"java/lang/Math", "min", "(II)I"⟩ : MethodName) (head1 (Jvm.Cond.code (⟨"java/lang/Math", "min", "(II)I"⟩ : MethodName) jdk_29_method_69_code 2 (some .int) :: ws) ({ frames := 0, cells := 0, slots := 0, locals := 0 } : Room)) (fun as_ U => as_ = #[(.int p1), (.int p2)] ∧ Z.Warmed39 U.vm ∧ U.heap = h0) (fun _ _ _ _ _ => True) (fun _ U oo_ U' => ∃ vv_ LL_, oo_ = .returned vv_ ∧ QMin Z p1 p2 h0 n0 vv_ U'.heap LL_ ∧ FrameEnd U oo_ U' LL_ ({ frames := 0, cells := 0, slots := 0, locals := 0 } : Room).cells ({ frames := 0, cells := 0, slots := 0, locals := 0 } : Room).slots) := by
  refine MetFree.of_bodySF (Jvm.Free.JP.mathPlain rfl (by decide +kernel)) hisR ?_
  intro p e s m args below meth c s₁ Bd hml0 hP hK
  obtain ⟨rfl, hZ, hh⟩ := hP
  have hx := Bd.exec
  have hby := Bd.bytes
  have hml : c.maxLocals = 2 := hml0
  have hown : s.vm.findClass "java/lang/Math" = some m.cls := findClass_of_methodNamed Bd.named
  have hnm := (name_of_methodNamed Bd.named Bd.method).1
  have X0 : Stand p l e ({ frames := 0, cells := 0, slots := 0, locals := 0 } : Room) s m #[(.int p1), (.int p2)] below meth c s₁ [] 0 0 := Stand.of_body Bd
  have e0 : s₁.heap = h0 := by rw [← hh, Bd.state]; rfl
  have N := Fr.nil n0
  have K : Keep h0 h0 [] := Keep.refl h0 _
  refine own_go (B := s₁.setTop (mkF m 0 #[.val (.int p1), .val (.int p2)] [])) (fun t k => castTop (ef_Min m p1 p2) k) ?_
  refine own_abs (fun P hfin => ?_)
  refine own_go (B := s₁.setTop (mkF m 2 #[.val (.int p1), .val (.int p2)] [(.int p2), (.int p1)])) (fun t k => ?_) ?_
  · show Steps p.tables e below (s₁.setTop (mkF m 0 #[.val (.int p1), .val (.int p2)] [])) _
    refine XS.iloadN X0.here hx rfl (hb hby d_jdk_29_method_69_0) rfl ?_
    show Steps p.tables e below (s₁.setTop (mkF m 1 #[.val (.int p1), .val (.int p2)] [(.int p1)])) _
    refine XS.iloadN X0.here hx rfl (hb hby d_jdk_29_method_69_1) rfl ?_
    show Steps p.tables e below (s₁.setTop (mkF m 2 #[.val (.int p1), .val (.int p2)] [(.int p2), (.int p1)])) _
    exact k
  by_cases s2 : p2 < p1
  · refine own_go (B := s₁.setTop (mkF m 10 #[.val (.int p1), .val (.int p2)] [(.int p2)])) (fun t k => ?_) ?_
    · show Steps p.tables e below (s₁.setTop (mkF m 2 #[.val (.int p1), .val (.int p2)] [(.int p2), (.int p1)])) _
      refine XS.icmpYes X0.here hx rfl (pc0 := 2) (pc' := 9) rfl (hb hby d_jdk_29_method_69_2) rfl (tlt s2).2.2.1 (by decide) (by decide) ?_
      show Steps p.tables e below (s₁.setTop (mkF m 9 #[.val (.int p1), .val (.int p2)] [])) _
      refine XS.iloadN X0.here hx rfl (hb hby d_jdk_29_method_69_9) rfl ?_
      show Steps p.tables e below (s₁.setTop (mkF m 10 #[.val (.int p1), .val (.int p2)] [(.int p2)])) _
      exact k
    obtain ⟨fs, hr, hrun, hended, hW, hsame⟩ := X0.leave (v := some (.int p2)) (fun h => by rw [Bd.returns] at h; cases h)
    refine ⟨_, _, retI X0 hx Bd.returns (hb hby d_jdk_29_method_69_10) hr, hfin _ _ ⟨hrun, hended, _, _, rfl, ?_, ⟨_, rfl⟩, hW, hsame.mono (by decide) (by decide)⟩⟩
    show QMin Z p1 p2 h0 n0 _ s₁.heap _
    exact ⟨p2, rfl, N, e0, (if_pos s2).symm⟩
  · refine own_go (B := s₁.setTop (mkF m 10 #[.val (.int p1), .val (.int p2)] [(.int p1)])) (fun t k => ?_) ?_
    · show Steps p.tables e below (s₁.setTop (mkF m 2 #[.val (.int p1), .val (.int p2)] [(.int p2), (.int p1)])) _
      refine XS.icmpNo X0.here hx rfl (hb hby d_jdk_29_method_69_2) rfl (flt s2).2.2.1 ?_
      show Steps p.tables e below (s₁.setTop (mkF m 5 #[.val (.int p1), .val (.int p2)] [])) _
      refine XS.iloadN X0.here hx rfl (hb hby d_jdk_29_method_69_5) rfl ?_
      show Steps p.tables e below (s₁.setTop (mkF m 6 #[.val (.int p1), .val (.int p2)] [(.int p1)])) _
      refine XS.goto X0.here hx rfl (pc0 := 6) (pc' := 10) rfl (hb hby d_jdk_29_method_69_6) (by decide) (by decide) ?_
      show Steps p.tables e below (s₁.setTop (mkF m 10 #[.val (.int p1), .val (.int p2)] [(.int p1)])) _
      exact k
    obtain ⟨fs, hr, hrun, hended, hW, hsame⟩ := X0.leave (v := some (.int p1)) (fun h => by rw [Bd.returns] at h; cases h)
    refine ⟨_, _, retI X0 hx Bd.returns (hb hby d_jdk_29_method_69_10) hr, hfin _ _ ⟨hrun, hended, _, _, rfl, ?_, ⟨_, rfl⟩, hW, hsame.mono (by decide) (by decide)⟩⟩
    show QMin Z p1 p2 h0 n0 _ s₁.heap _
    exact ⟨p1, rfl, N, e0, (if_neg s2).symm⟩
def QMis (Z : State) (a : Addr) (b : Addr) (ka : ClassId) (kb : ClassId) (cs : List Int32) (ds : List Int32) (p3 : Int32) (h0 : Heap) (n0 : Nat) (v : Option Value) (h : Heap) (L : List Loc) : Prop := ∃ r : Int32, v = some (.int r) ∧ Fr n0 L ∧ h = h0 ∧ (r = own_mis cs ds p3)
theorem ef_Mis (m : MethodId) (a : Addr) (b : Addr) (p3 : Int32) : entryFrame m #[(.ref a), (.ref b), (.int p3)] 4 = mkF m 0 #[.val (.ref a), .val (.ref b), .val (.int p3), .unset] [] := by first | (simp [entryFrame, mkF, argsToLocals, Value.category]; done) | rfl | (rfl)
set_option maxRecDepth 65536 in
set_option maxHeartbeats 40000000 in
theorem rmMis (l : Launch) (Z : State) (a0 : Array Value) (hw : ∀ d ∈ tables_1, d.before a0 Z = true) (ws : List Jvm.Cond) (a : Addr) (b : Addr) (ka : ClassId) (kb : ClassId) (cs : List Int32) (ds : List Int32) (p3 : Int32) (h0 : Heap) (n0 : Nat) (O : Old Z n0 h0) (Va : Arv Z h0 a ka .byte (Int32.ofNat cs.length) (own_bs cs) (.int (0 : Int32))) (Vb : Arv Z h0 b kb .byte (Int32.ofNat ds.length) (own_bs ds) (.int (0 : Int32))) (hn : p3 = (0 : Int32) ∨ p3 = (1 : Int32) ∨ p3 = (2 : Int32)) (hq1 : ¬ p3 = (0 : Int32) → 0 < cs.length ∧ 0 < ds.length) (hq2 : p3 = (2 : Int32) → 1 < cs.length ∧ 1 < ds.length) (l1 : cs.length ≤ 4000) (l2 : ds.length ≤ 4000) :
    MetFree l (⟨"jdk/internal/util/ArraysSupport", "mismatch", "([B[BI)I"⟩ : MethodName) (head1 (Jvm.Cond.code (⟨"jdk/internal/util/ArraysSupport", "mismatch", "([B[BI)I"⟩ : MethodName) jdk_48_method_13_code 4 (some .int) :: ws) ({ frames := 0, cells := 0, slots := 0, locals := 0 } : Room)) (fun as_ U => as_ = #[(.ref a), (.ref b), (.int p3)] ∧ Z.Warmed39 U.vm ∧ U.heap = h0) (fun _ _ _ _ _ => True) (fun _ U oo_ U' => ∃ vv_ LL_, oo_ = .returned vv_ ∧ QMis Z a b ka kb cs ds p3 h0 n0 vv_ U'.heap LL_ ∧ FrameEnd U oo_ U' LL_ ({ frames := 0, cells := 0, slots := 0, locals := 0 } : Room).cells ({ frames := 0, cells := 0, slots := 0, locals := 0 } : Room).slots) := by
  refine MetFree.of_bodySF (plainFor_of_name pn_3) hisR ?_
  intro p e s m args below meth c s₁ Bd hml0 hP hK
  obtain ⟨rfl, hZ, hh⟩ := hP
  have hx := Bd.exec
  have hby := Bd.bytes
  have hml : c.maxLocals = 4 := hml0
  have hown : s.vm.findClass "jdk/internal/util/ArraysSupport" = some m.cls := findClass_of_methodNamed Bd.named
  have hnm := (name_of_methodNamed Bd.named Bd.method).1
  have X0 : Stand p l e ({ frames := 0, cells := 0, slots := 0, locals := 0 } : Room) s m #[(.ref a), (.ref b), (.int p3)] below meth c s₁ [] 0 0 := Stand.of_body Bd
  have e0 : s₁.heap = h0 := by rw [← hh, Bd.state]; rfl
  have N := Fr.nil n0
  have K : Keep h0 h0 [] := Keep.refl h0 _
  refine own_go (B := s₁.setTop (mkF m 0 #[.val (.ref a), .val (.ref b), .val (.int p3), .unset] [])) (fun t k => castTop (ef_Mis m a b p3) k) ?_
  refine own_abs (fun P hfin => ?_)
  by_cases w0_ : p3 = (0 : Int32)
  · by_cases w1_ : p3 = (1 : Int32)
    · refine own_go (B := s₁.setTop (mkF m 72 #[.val (.ref a), .val (.ref b), .val (.int p3), .val (.int (0 : Int32))] [(.int (-1 : Int32))])) (fun t k => ?_) ?_
      · show Steps p.tables e below (s₁.setTop (mkF m 0 #[.val (.ref a), .val (.ref b), .val (.int p3), .unset] [])) _
        refine XS.iconst X0.here hx rfl (hb hby d_jdk_48_method_13_0) ?_
        show Steps p.tables e below (s₁.setTop (mkF m 1 #[.val (.ref a), .val (.ref b), .val (.int p3), .unset] [(.int (0 : Int32))])) _
        refine XS.istoreN X0.here hx rfl (hb hby d_jdk_48_method_13_1) rfl (l' := #[.val (.ref a), .val (.ref b), .val (.int p3), .val (.int (0 : Int32))]) rfl ?_
        show Steps p.tables e below (s₁.setTop (mkF m 2 #[.val (.ref a), .val (.ref b), .val (.int p3), .val (.int (0 : Int32))] [])) _
        refine XS.iloadN X0.here hx rfl (hb hby d_jdk_48_method_13_2) rfl ?_
        show Steps p.tables e below (s₁.setTop (mkF m 3 #[.val (.ref a), .val (.ref b), .val (.int p3), .val (.int (0 : Int32))] [(.int p3)])) _
        refine XS.bipush X0.here hx rfl (hb hby d_jdk_48_method_13_3) ?_
        show Steps p.tables e below (s₁.setTop (mkF m 5 #[.val (.ref a), .val (.ref b), .val (.int p3), .val (.int (0 : Int32))] [(.int (7 : Int32)), (.int p3)])) _
        refine XS.icmpYes X0.here hx rfl (pc0 := 5) (pc' := 49) rfl (hb hby d_jdk_48_method_13_5) rfl (flt (own_le7 hn)).2.2.2 (by decide) (by decide) ?_
        show Steps p.tables e below (s₁.setTop (mkF m 49 #[.val (.ref a), .val (.ref b), .val (.int p3), .val (.int (0 : Int32))] [])) _
        refine XS.iloadN X0.here hx rfl (hb hby d_jdk_48_method_13_49) rfl ?_
        show Steps p.tables e below (s₁.setTop (mkF m 50 #[.val (.ref a), .val (.ref b), .val (.int p3), .val (.int (0 : Int32))] [(.int (0 : Int32))])) _
        refine XS.iloadN X0.here hx rfl (hb hby d_jdk_48_method_13_50) rfl ?_
        show Steps p.tables e below (s₁.setTop (mkF m 51 #[.val (.ref a), .val (.ref b), .val (.int p3), .val (.int (0 : Int32))] [(.int p3), (.int (0 : Int32))])) _
        refine XS.icmpYes X0.here hx rfl (pc0 := 51) (pc' := 71) rfl (hb hby d_jdk_48_method_13_51) rfl (flt (by rw [w0_]; decide)).2.1 (by decide) (by decide) ?_
        show Steps p.tables e below (s₁.setTop (mkF m 71 #[.val (.ref a), .val (.ref b), .val (.int p3), .val (.int (0 : Int32))] [])) _
        refine XS.iconst X0.here hx rfl (hb hby d_jdk_48_method_13_71) ?_
        show Steps p.tables e below (s₁.setTop (mkF m 72 #[.val (.ref a), .val (.ref b), .val (.int p3), .val (.int (0 : Int32))] [(.int (-1 : Int32))])) _
        exact k
      obtain ⟨fs, hr, hrun, hended, hW, hsame⟩ := X0.leave (v := some (.int (-1 : Int32))) (fun h => by rw [Bd.returns] at h; cases h)
      refine ⟨_, _, retI X0 hx Bd.returns (hb hby d_jdk_48_method_13_72) hr, hfin _ _ ⟨hrun, hended, _, _, rfl, ?_, ⟨_, rfl⟩, hW, hsame.mono (by decide) (by decide)⟩⟩
      show QMis Z a b ka kb cs ds p3 h0 n0 _ s₁.heap _
      exact ⟨(-1 : Int32), rfl, N, e0, (show own_mis cs ds p3 = _ from (if_pos w0_)).symm⟩
    · refine own_go (B := s₁.setTop (mkF m 72 #[.val (.ref a), .val (.ref b), .val (.int p3), .val (.int (0 : Int32))] [(.int (-1 : Int32))])) (fun t k => ?_) ?_
      · show Steps p.tables e below (s₁.setTop (mkF m 0 #[.val (.ref a), .val (.ref b), .val (.int p3), .unset] [])) _
        refine XS.iconst X0.here hx rfl (hb hby d_jdk_48_method_13_0) ?_
        show Steps p.tables e below (s₁.setTop (mkF m 1 #[.val (.ref a), .val (.ref b), .val (.int p3), .unset] [(.int (0 : Int32))])) _
        refine XS.istoreN X0.here hx rfl (hb hby d_jdk_48_method_13_1) rfl (l' := #[.val (.ref a), .val (.ref b), .val (.int p3), .val (.int (0 : Int32))]) rfl ?_
        show Steps p.tables e below (s₁.setTop (mkF m 2 #[.val (.ref a), .val (.ref b), .val (.int p3), .val (.int (0 : Int32))] [])) _
        refine XS.iloadN X0.here hx rfl (hb hby d_jdk_48_method_13_2) rfl ?_
        show Steps p.tables e below (s₁.setTop (mkF m 3 #[.val (.ref a), .val (.ref b), .val (.int p3), .val (.int (0 : Int32))] [(.int p3)])) _
        refine XS.bipush X0.here hx rfl (hb hby d_jdk_48_method_13_3) ?_
        show Steps p.tables e below (s₁.setTop (mkF m 5 #[.val (.ref a), .val (.ref b), .val (.int p3), .val (.int (0 : Int32))] [(.int (7 : Int32)), (.int p3)])) _
        refine XS.icmpYes X0.here hx rfl (pc0 := 5) (pc' := 49) rfl (hb hby d_jdk_48_method_13_5) rfl (flt (own_le7 hn)).2.2.2 (by decide) (by decide) ?_
        show Steps p.tables e below (s₁.setTop (mkF m 49 #[.val (.ref a), .val (.ref b), .val (.int p3), .val (.int (0 : Int32))] [])) _
        refine XS.iloadN X0.here hx rfl (hb hby d_jdk_48_method_13_49) rfl ?_
        show Steps p.tables e below (s₁.setTop (mkF m 50 #[.val (.ref a), .val (.ref b), .val (.int p3), .val (.int (0 : Int32))] [(.int (0 : Int32))])) _
        refine XS.iloadN X0.here hx rfl (hb hby d_jdk_48_method_13_50) rfl ?_
        show Steps p.tables e below (s₁.setTop (mkF m 51 #[.val (.ref a), .val (.ref b), .val (.int p3), .val (.int (0 : Int32))] [(.int p3), (.int (0 : Int32))])) _
        refine XS.icmpYes X0.here hx rfl (pc0 := 51) (pc' := 71) rfl (hb hby d_jdk_48_method_13_51) rfl (flt (by rw [w0_]; decide)).2.1 (by decide) (by decide) ?_
        show Steps p.tables e below (s₁.setTop (mkF m 71 #[.val (.ref a), .val (.ref b), .val (.int p3), .val (.int (0 : Int32))] [])) _
        refine XS.iconst X0.here hx rfl (hb hby d_jdk_48_method_13_71) ?_
        show Steps p.tables e below (s₁.setTop (mkF m 72 #[.val (.ref a), .val (.ref b), .val (.int p3), .val (.int (0 : Int32))] [(.int (-1 : Int32))])) _
        exact k
      obtain ⟨fs, hr, hrun, hended, hW, hsame⟩ := X0.leave (v := some (.int (-1 : Int32))) (fun h => by rw [Bd.returns] at h; cases h)
      refine ⟨_, _, retI X0 hx Bd.returns (hb hby d_jdk_48_method_13_72) hr, hfin _ _ ⟨hrun, hended, _, _, rfl, ?_, ⟨_, rfl⟩, hW, hsame.mono (by decide) (by decide)⟩⟩
      show QMis Z a b ka kb cs ds p3 h0 n0 _ s₁.heap _
      exact ⟨(-1 : Int32), rfl, N, e0, (show own_mis cs ds p3 = _ from (if_pos w0_)).symm⟩
  · by_cases w1_ : p3 = (1 : Int32)
    · refine own_go (B := s₁.setTop (mkF m 56 #[.val (.ref a), .val (.ref b), .val (.int p3), .val (.int (0 : Int32))] [(.int (0 : Int32)), (.ref a)])) (fun t k => ?_) ?_
      · show Steps p.tables e below (s₁.setTop (mkF m 0 #[.val (.ref a), .val (.ref b), .val (.int p3), .unset] [])) _
        refine XS.iconst X0.here hx rfl (hb hby d_jdk_48_method_13_0) ?_
        show Steps p.tables e below (s₁.setTop (mkF m 1 #[.val (.ref a), .val (.ref b), .val (.int p3), .unset] [(.int (0 : Int32))])) _
        refine XS.istoreN X0.here hx rfl (hb hby d_jdk_48_method_13_1) rfl (l' := #[.val (.ref a), .val (.ref b), .val (.int p3), .val (.int (0 : Int32))]) rfl ?_
        show Steps p.tables e below (s₁.setTop (mkF m 2 #[.val (.ref a), .val (.ref b), .val (.int p3), .val (.int (0 : Int32))] [])) _
        refine XS.iloadN X0.here hx rfl (hb hby d_jdk_48_method_13_2) rfl ?_
        show Steps p.tables e below (s₁.setTop (mkF m 3 #[.val (.ref a), .val (.ref b), .val (.int p3), .val (.int (0 : Int32))] [(.int p3)])) _
        refine XS.bipush X0.here hx rfl (hb hby d_jdk_48_method_13_3) ?_
        show Steps p.tables e below (s₁.setTop (mkF m 5 #[.val (.ref a), .val (.ref b), .val (.int p3), .val (.int (0 : Int32))] [(.int (7 : Int32)), (.int p3)])) _
        refine XS.icmpYes X0.here hx rfl (pc0 := 5) (pc' := 49) rfl (hb hby d_jdk_48_method_13_5) rfl (flt (own_le7 hn)).2.2.2 (by decide) (by decide) ?_
        show Steps p.tables e below (s₁.setTop (mkF m 49 #[.val (.ref a), .val (.ref b), .val (.int p3), .val (.int (0 : Int32))] [])) _
        refine XS.iloadN X0.here hx rfl (hb hby d_jdk_48_method_13_49) rfl ?_
        show Steps p.tables e below (s₁.setTop (mkF m 50 #[.val (.ref a), .val (.ref b), .val (.int p3), .val (.int (0 : Int32))] [(.int (0 : Int32))])) _
        refine XS.iloadN X0.here hx rfl (hb hby d_jdk_48_method_13_50) rfl ?_
        show Steps p.tables e below (s₁.setTop (mkF m 51 #[.val (.ref a), .val (.ref b), .val (.int p3), .val (.int (0 : Int32))] [(.int p3), (.int (0 : Int32))])) _
        refine XS.icmpNo X0.here hx rfl (hb hby d_jdk_48_method_13_51) rfl (tlt (by rw [w1_]; decide)).2.1 ?_
        show Steps p.tables e below (s₁.setTop (mkF m 54 #[.val (.ref a), .val (.ref b), .val (.int p3), .val (.int (0 : Int32))] [])) _
        refine XS.aloadN X0.here hx rfl (hb hby d_jdk_48_method_13_54) rfl rfl ?_
        show Steps p.tables e below (s₁.setTop (mkF m 55 #[.val (.ref a), .val (.ref b), .val (.int p3), .val (.int (0 : Int32))] [(.ref a)])) _
        refine XS.iloadN X0.here hx rfl (hb hby d_jdk_48_method_13_55) rfl ?_
        show Steps p.tables e below (s₁.setTop (mkF m 56 #[.val (.ref a), .val (.ref b), .val (.int p3), .val (.int (0 : Int32))] [(.int (0 : Int32)), (.ref a)])) _
        exact k
      obtain ⟨cl3, Ar3, q3, Sz3, Nn3, Hs3, Gt3⟩ := Va
      have hin3 : ¬ ((0 : Int32) < 0 ∨ cl3.slots.size ≤ ((0 : Int32)).toNatClampNeg) := inb_of Sz3 ⟨by decide, own_oflt l1 (hq1 w0_).1⟩
      have hat3 : cl3.slots[((0 : Int32)).toNatClampNeg]? = some (.int (own_at cs 0)) := Hs3.at hin3 (own_bsD (hq1 w0_).1)
      have st3 := X0.baloadBytes hx (j := (0 : Int32)) (v := (.int (own_at cs 0))) (by rw [e0]; exact Ar3.1) (State.isArrayOf_alike hZ.alike Ar3.2.1) Ar3.2.2 hin3 hat3 (g := (mkF m 56 #[.val (.ref a), .val (.ref b), .val (.int p3), .val (.int (0 : Int32))] [(.int (0 : Int32)), (.ref a)])) rfl rfl (hb hby d_jdk_48_method_13_56)
      have V3 : Arv Z h0 a ka .byte (Int32.ofNat cs.length) (own_bs cs) (.int (0 : Int32)) := ⟨cl3, Ar3, q3, Sz3, Nn3, Hs3, Gt3⟩
      refine own_go (B := s₁.setTop (mkF m 57 #[.val (.ref a), .val (.ref b), .val (.int p3), .val (.int (0 : Int32))] [(.int (own_at cs 0))])) st3 ?_
      refine own_go (B := s₁.setTop (mkF m 59 #[.val (.ref a), .val (.ref b), .val (.int p3), .val (.int (0 : Int32))] [(.int (0 : Int32)), (.ref b), (.int (own_at cs 0))])) (fun t k => ?_) ?_
      · show Steps p.tables e below (s₁.setTop (mkF m 57 #[.val (.ref a), .val (.ref b), .val (.int p3), .val (.int (0 : Int32))] [(.int (own_at cs 0))])) _
        refine XS.aloadN X0.here hx rfl (hb hby d_jdk_48_method_13_57) rfl rfl ?_
        show Steps p.tables e below (s₁.setTop (mkF m 58 #[.val (.ref a), .val (.ref b), .val (.int p3), .val (.int (0 : Int32))] [(.ref b), (.int (own_at cs 0))])) _
        refine XS.iloadN X0.here hx rfl (hb hby d_jdk_48_method_13_58) rfl ?_
        show Steps p.tables e below (s₁.setTop (mkF m 59 #[.val (.ref a), .val (.ref b), .val (.int p3), .val (.int (0 : Int32))] [(.int (0 : Int32)), (.ref b), (.int (own_at cs 0))])) _
        exact k
      obtain ⟨cl4, Ar4, q4, Sz4, Nn4, Hs4, Gt4⟩ := Vb
      have hin4 : ¬ ((0 : Int32) < 0 ∨ cl4.slots.size ≤ ((0 : Int32)).toNatClampNeg) := inb_of Sz4 ⟨by decide, own_oflt l2 (hq1 w0_).2⟩
      have hat4 : cl4.slots[((0 : Int32)).toNatClampNeg]? = some (.int (own_at ds 0)) := Hs4.at hin4 (own_bsD (hq1 w0_).2)
      have st4 := X0.baloadBytes hx (j := (0 : Int32)) (v := (.int (own_at ds 0))) (by rw [e0]; exact Ar4.1) (State.isArrayOf_alike hZ.alike Ar4.2.1) Ar4.2.2 hin4 hat4 (g := (mkF m 59 #[.val (.ref a), .val (.ref b), .val (.int p3), .val (.int (0 : Int32))] [(.int (0 : Int32)), (.ref b), (.int (own_at cs 0))])) rfl rfl (hb hby d_jdk_48_method_13_59)
      have V4 : Arv Z h0 b kb .byte (Int32.ofNat ds.length) (own_bs ds) (.int (0 : Int32)) := ⟨cl4, Ar4, q4, Sz4, Nn4, Hs4, Gt4⟩
      refine own_go (B := s₁.setTop (mkF m 60 #[.val (.ref a), .val (.ref b), .val (.int p3), .val (.int (0 : Int32))] [(.int (own_at ds 0)), (.int (own_at cs 0))])) st4 ?_
      by_cases qe0 : (own_at cs 0) = (own_at ds 0)
      · refine own_go (B := s₁.setTop (mkF m 72 #[.val (.ref a), .val (.ref b), .val (.int p3), .val (.int (1 : Int32))] [(.int (-1 : Int32))])) (fun t k => ?_) ?_
        · show Steps p.tables e below (s₁.setTop (mkF m 60 #[.val (.ref a), .val (.ref b), .val (.int p3), .val (.int (0 : Int32))] [(.int (own_at ds 0)), (.int (own_at cs 0))])) _
          refine XS.icmpYes X0.here hx rfl (pc0 := 60) (pc' := 65) rfl (hb hby d_jdk_48_method_13_60) rfl (teq qe0).1 (by decide) (by decide) ?_
          show Steps p.tables e below (s₁.setTop (mkF m 65 #[.val (.ref a), .val (.ref b), .val (.int p3), .val (.int (0 : Int32))] [])) _
          refine XS.iinc X0.here hx rfl (hb hby d_jdk_48_method_13_65) rfl (l' := #[.val (.ref a), .val (.ref b), .val (.int p3), .val (.int (1 : Int32))]) rfl ?_
          show Steps p.tables e below (s₁.setTop (mkF m 68 #[.val (.ref a), .val (.ref b), .val (.int p3), .val (.int (1 : Int32))] [])) _
          refine XS.goto X0.here hx rfl (pc0 := 68) (pc' := 49) rfl (hb hby d_jdk_48_method_13_68) (by decide) (by decide) ?_
          show Steps p.tables e below (s₁.setTop (mkF m 49 #[.val (.ref a), .val (.ref b), .val (.int p3), .val (.int (1 : Int32))] [])) _
          refine XS.iloadN X0.here hx rfl (hb hby d_jdk_48_method_13_49) rfl ?_
          show Steps p.tables e below (s₁.setTop (mkF m 50 #[.val (.ref a), .val (.ref b), .val (.int p3), .val (.int (1 : Int32))] [(.int (1 : Int32))])) _
          refine XS.iloadN X0.here hx rfl (hb hby d_jdk_48_method_13_50) rfl ?_
          show Steps p.tables e below (s₁.setTop (mkF m 51 #[.val (.ref a), .val (.ref b), .val (.int p3), .val (.int (1 : Int32))] [(.int p3), (.int (1 : Int32))])) _
          refine XS.icmpYes X0.here hx rfl (pc0 := 51) (pc' := 71) rfl (hb hby d_jdk_48_method_13_51) rfl (flt (by rw [w1_]; decide)).2.1 (by decide) (by decide) ?_
          show Steps p.tables e below (s₁.setTop (mkF m 71 #[.val (.ref a), .val (.ref b), .val (.int p3), .val (.int (1 : Int32))] [])) _
          refine XS.iconst X0.here hx rfl (hb hby d_jdk_48_method_13_71) ?_
          show Steps p.tables e below (s₁.setTop (mkF m 72 #[.val (.ref a), .val (.ref b), .val (.int p3), .val (.int (1 : Int32))] [(.int (-1 : Int32))])) _
          exact k
        obtain ⟨fs, hr, hrun, hended, hW, hsame⟩ := X0.leave (v := some (.int (-1 : Int32))) (fun h => by rw [Bd.returns] at h; cases h)
        refine ⟨_, _, retI X0 hx Bd.returns (hb hby d_jdk_48_method_13_72) hr, hfin _ _ ⟨hrun, hended, _, _, rfl, ?_, ⟨_, rfl⟩, hW, hsame.mono (by decide) (by decide)⟩⟩
        show QMis Z a b ka kb cs ds p3 h0 n0 _ s₁.heap _
        exact ⟨(-1 : Int32), rfl, N, e0, (show own_mis cs ds p3 = _ from ((if_neg w0_).trans ((if_pos qe0).trans (if_pos w1_)))).symm⟩
      · refine own_go (B := s₁.setTop (mkF m 64 #[.val (.ref a), .val (.ref b), .val (.int p3), .val (.int (0 : Int32))] [(.int (0 : Int32))])) (fun t k => ?_) ?_
        · show Steps p.tables e below (s₁.setTop (mkF m 60 #[.val (.ref a), .val (.ref b), .val (.int p3), .val (.int (0 : Int32))] [(.int (own_at ds 0)), (.int (own_at cs 0))])) _
          refine XS.icmpNo X0.here hx rfl (hb hby d_jdk_48_method_13_60) rfl (feq qe0).1 ?_
          show Steps p.tables e below (s₁.setTop (mkF m 63 #[.val (.ref a), .val (.ref b), .val (.int p3), .val (.int (0 : Int32))] [])) _
          refine XS.iloadN X0.here hx rfl (hb hby d_jdk_48_method_13_63) rfl ?_
          show Steps p.tables e below (s₁.setTop (mkF m 64 #[.val (.ref a), .val (.ref b), .val (.int p3), .val (.int (0 : Int32))] [(.int (0 : Int32))])) _
          exact k
        obtain ⟨fs, hr, hrun, hended, hW, hsame⟩ := X0.leave (v := some (.int (0 : Int32))) (fun h => by rw [Bd.returns] at h; cases h)
        refine ⟨_, _, retI X0 hx Bd.returns (hb hby d_jdk_48_method_13_64) hr, hfin _ _ ⟨hrun, hended, _, _, rfl, ?_, ⟨_, rfl⟩, hW, hsame.mono (by decide) (by decide)⟩⟩
        show QMis Z a b ka kb cs ds p3 h0 n0 _ s₁.heap _
        exact ⟨(0 : Int32), rfl, N, e0, (show own_mis cs ds p3 = _ from ((if_neg w0_).trans (if_neg qe0))).symm⟩
    · refine own_go (B := s₁.setTop (mkF m 1 #[.val (.ref a), .val (.ref b), .val (.int p3), .unset] [(.int (0 : Int32))])) (fun t k => ?_) ?_
      · show Steps p.tables e below (s₁.setTop (mkF m 0 #[.val (.ref a), .val (.ref b), .val (.int p3), .unset] [])) _
        refine XS.iconst X0.here hx rfl (hb hby d_jdk_48_method_13_0) ?_
        show Steps p.tables e below (s₁.setTop (mkF m 1 #[.val (.ref a), .val (.ref b), .val (.int p3), .unset] [(.int (0 : Int32))])) _
        exact k
      have w2_ : p3 = (2 : Int32) := (hn.resolve_left w0_).resolve_left w1_
      refine own_go (B := s₁.setTop (mkF m 56 #[.val (.ref a), .val (.ref b), .val (.int p3), .val (.int (0 : Int32))] [(.int (0 : Int32)), (.ref a)])) (fun t k => ?_) ?_
      · show Steps p.tables e below (s₁.setTop (mkF m 1 #[.val (.ref a), .val (.ref b), .val (.int p3), .unset] [(.int (0 : Int32))])) _
        refine XS.istoreN X0.here hx rfl (hb hby d_jdk_48_method_13_1) rfl (l' := #[.val (.ref a), .val (.ref b), .val (.int p3), .val (.int (0 : Int32))]) rfl ?_
        show Steps p.tables e below (s₁.setTop (mkF m 2 #[.val (.ref a), .val (.ref b), .val (.int p3), .val (.int (0 : Int32))] [])) _
        refine XS.iloadN X0.here hx rfl (hb hby d_jdk_48_method_13_2) rfl ?_
        show Steps p.tables e below (s₁.setTop (mkF m 3 #[.val (.ref a), .val (.ref b), .val (.int p3), .val (.int (0 : Int32))] [(.int p3)])) _
        refine XS.bipush X0.here hx rfl (hb hby d_jdk_48_method_13_3) ?_
        show Steps p.tables e below (s₁.setTop (mkF m 5 #[.val (.ref a), .val (.ref b), .val (.int p3), .val (.int (0 : Int32))] [(.int (7 : Int32)), (.int p3)])) _
        refine XS.icmpYes X0.here hx rfl (pc0 := 5) (pc' := 49) rfl (hb hby d_jdk_48_method_13_5) rfl (flt (own_le7 hn)).2.2.2 (by decide) (by decide) ?_
        show Steps p.tables e below (s₁.setTop (mkF m 49 #[.val (.ref a), .val (.ref b), .val (.int p3), .val (.int (0 : Int32))] [])) _
        refine XS.iloadN X0.here hx rfl (hb hby d_jdk_48_method_13_49) rfl ?_
        show Steps p.tables e below (s₁.setTop (mkF m 50 #[.val (.ref a), .val (.ref b), .val (.int p3), .val (.int (0 : Int32))] [(.int (0 : Int32))])) _
        refine XS.iloadN X0.here hx rfl (hb hby d_jdk_48_method_13_50) rfl ?_
        show Steps p.tables e below (s₁.setTop (mkF m 51 #[.val (.ref a), .val (.ref b), .val (.int p3), .val (.int (0 : Int32))] [(.int p3), (.int (0 : Int32))])) _
        refine XS.icmpNo X0.here hx rfl (hb hby d_jdk_48_method_13_51) rfl (tlt (by rw [w2_]; decide)).2.1 ?_
        show Steps p.tables e below (s₁.setTop (mkF m 54 #[.val (.ref a), .val (.ref b), .val (.int p3), .val (.int (0 : Int32))] [])) _
        refine XS.aloadN X0.here hx rfl (hb hby d_jdk_48_method_13_54) rfl rfl ?_
        show Steps p.tables e below (s₁.setTop (mkF m 55 #[.val (.ref a), .val (.ref b), .val (.int p3), .val (.int (0 : Int32))] [(.ref a)])) _
        refine XS.iloadN X0.here hx rfl (hb hby d_jdk_48_method_13_55) rfl ?_
        show Steps p.tables e below (s₁.setTop (mkF m 56 #[.val (.ref a), .val (.ref b), .val (.int p3), .val (.int (0 : Int32))] [(.int (0 : Int32)), (.ref a)])) _
        exact k
      obtain ⟨cl7, Ar7, q7, Sz7, Nn7, Hs7, Gt7⟩ := Va
      have hin7 : ¬ ((0 : Int32) < 0 ∨ cl7.slots.size ≤ ((0 : Int32)).toNatClampNeg) := inb_of Sz7 ⟨by decide, own_oflt l1 (hq1 w0_).1⟩
      have hat7 : cl7.slots[((0 : Int32)).toNatClampNeg]? = some (.int (own_at cs 0)) := Hs7.at hin7 (own_bsD (hq1 w0_).1)
      have st7 := X0.baloadBytes hx (j := (0 : Int32)) (v := (.int (own_at cs 0))) (by rw [e0]; exact Ar7.1) (State.isArrayOf_alike hZ.alike Ar7.2.1) Ar7.2.2 hin7 hat7 (g := (mkF m 56 #[.val (.ref a), .val (.ref b), .val (.int p3), .val (.int (0 : Int32))] [(.int (0 : Int32)), (.ref a)])) rfl rfl (hb hby d_jdk_48_method_13_56)
      have V7 : Arv Z h0 a ka .byte (Int32.ofNat cs.length) (own_bs cs) (.int (0 : Int32)) := ⟨cl7, Ar7, q7, Sz7, Nn7, Hs7, Gt7⟩
      refine own_go (B := s₁.setTop (mkF m 57 #[.val (.ref a), .val (.ref b), .val (.int p3), .val (.int (0 : Int32))] [(.int (own_at cs 0))])) st7 ?_
      refine own_go (B := s₁.setTop (mkF m 59 #[.val (.ref a), .val (.ref b), .val (.int p3), .val (.int (0 : Int32))] [(.int (0 : Int32)), (.ref b), (.int (own_at cs 0))])) (fun t k => ?_) ?_
      · show Steps p.tables e below (s₁.setTop (mkF m 57 #[.val (.ref a), .val (.ref b), .val (.int p3), .val (.int (0 : Int32))] [(.int (own_at cs 0))])) _
        refine XS.aloadN X0.here hx rfl (hb hby d_jdk_48_method_13_57) rfl rfl ?_
        show Steps p.tables e below (s₁.setTop (mkF m 58 #[.val (.ref a), .val (.ref b), .val (.int p3), .val (.int (0 : Int32))] [(.ref b), (.int (own_at cs 0))])) _
        refine XS.iloadN X0.here hx rfl (hb hby d_jdk_48_method_13_58) rfl ?_
        show Steps p.tables e below (s₁.setTop (mkF m 59 #[.val (.ref a), .val (.ref b), .val (.int p3), .val (.int (0 : Int32))] [(.int (0 : Int32)), (.ref b), (.int (own_at cs 0))])) _
        exact k
      obtain ⟨cl8, Ar8, q8, Sz8, Nn8, Hs8, Gt8⟩ := Vb
      have hin8 : ¬ ((0 : Int32) < 0 ∨ cl8.slots.size ≤ ((0 : Int32)).toNatClampNeg) := inb_of Sz8 ⟨by decide, own_oflt l2 (hq1 w0_).2⟩
      have hat8 : cl8.slots[((0 : Int32)).toNatClampNeg]? = some (.int (own_at ds 0)) := Hs8.at hin8 (own_bsD (hq1 w0_).2)
      have st8 := X0.baloadBytes hx (j := (0 : Int32)) (v := (.int (own_at ds 0))) (by rw [e0]; exact Ar8.1) (State.isArrayOf_alike hZ.alike Ar8.2.1) Ar8.2.2 hin8 hat8 (g := (mkF m 59 #[.val (.ref a), .val (.ref b), .val (.int p3), .val (.int (0 : Int32))] [(.int (0 : Int32)), (.ref b), (.int (own_at cs 0))])) rfl rfl (hb hby d_jdk_48_method_13_59)
      have V8 : Arv Z h0 b kb .byte (Int32.ofNat ds.length) (own_bs ds) (.int (0 : Int32)) := ⟨cl8, Ar8, q8, Sz8, Nn8, Hs8, Gt8⟩
      refine own_go (B := s₁.setTop (mkF m 60 #[.val (.ref a), .val (.ref b), .val (.int p3), .val (.int (0 : Int32))] [(.int (own_at ds 0)), (.int (own_at cs 0))])) st8 ?_
      by_cases qe0 : (own_at cs 0) = (own_at ds 0)
      · refine own_go (B := s₁.setTop (mkF m 56 #[.val (.ref a), .val (.ref b), .val (.int p3), .val (.int (1 : Int32))] [(.int (1 : Int32)), (.ref a)])) (fun t k => ?_) ?_
        · show Steps p.tables e below (s₁.setTop (mkF m 60 #[.val (.ref a), .val (.ref b), .val (.int p3), .val (.int (0 : Int32))] [(.int (own_at ds 0)), (.int (own_at cs 0))])) _
          refine XS.icmpYes X0.here hx rfl (pc0 := 60) (pc' := 65) rfl (hb hby d_jdk_48_method_13_60) rfl (teq qe0).1 (by decide) (by decide) ?_
          show Steps p.tables e below (s₁.setTop (mkF m 65 #[.val (.ref a), .val (.ref b), .val (.int p3), .val (.int (0 : Int32))] [])) _
          refine XS.iinc X0.here hx rfl (hb hby d_jdk_48_method_13_65) rfl (l' := #[.val (.ref a), .val (.ref b), .val (.int p3), .val (.int (1 : Int32))]) rfl ?_
          show Steps p.tables e below (s₁.setTop (mkF m 68 #[.val (.ref a), .val (.ref b), .val (.int p3), .val (.int (1 : Int32))] [])) _
          refine XS.goto X0.here hx rfl (pc0 := 68) (pc' := 49) rfl (hb hby d_jdk_48_method_13_68) (by decide) (by decide) ?_
          show Steps p.tables e below (s₁.setTop (mkF m 49 #[.val (.ref a), .val (.ref b), .val (.int p3), .val (.int (1 : Int32))] [])) _
          refine XS.iloadN X0.here hx rfl (hb hby d_jdk_48_method_13_49) rfl ?_
          show Steps p.tables e below (s₁.setTop (mkF m 50 #[.val (.ref a), .val (.ref b), .val (.int p3), .val (.int (1 : Int32))] [(.int (1 : Int32))])) _
          refine XS.iloadN X0.here hx rfl (hb hby d_jdk_48_method_13_50) rfl ?_
          show Steps p.tables e below (s₁.setTop (mkF m 51 #[.val (.ref a), .val (.ref b), .val (.int p3), .val (.int (1 : Int32))] [(.int p3), (.int (1 : Int32))])) _
          refine XS.icmpNo X0.here hx rfl (hb hby d_jdk_48_method_13_51) rfl (tlt (by rw [w2_]; decide)).2.1 ?_
          show Steps p.tables e below (s₁.setTop (mkF m 54 #[.val (.ref a), .val (.ref b), .val (.int p3), .val (.int (1 : Int32))] [])) _
          refine XS.aloadN X0.here hx rfl (hb hby d_jdk_48_method_13_54) rfl rfl ?_
          show Steps p.tables e below (s₁.setTop (mkF m 55 #[.val (.ref a), .val (.ref b), .val (.int p3), .val (.int (1 : Int32))] [(.ref a)])) _
          refine XS.iloadN X0.here hx rfl (hb hby d_jdk_48_method_13_55) rfl ?_
          show Steps p.tables e below (s₁.setTop (mkF m 56 #[.val (.ref a), .val (.ref b), .val (.int p3), .val (.int (1 : Int32))] [(.int (1 : Int32)), (.ref a)])) _
          exact k
        obtain ⟨cl9, Ar9, q9, Sz9, Nn9, Hs9, Gt9⟩ := V7
        have hin9 : ¬ ((1 : Int32) < 0 ∨ cl9.slots.size ≤ ((1 : Int32)).toNatClampNeg) := inb_of Sz9 ⟨by decide, own_oflt l1 (hq2 w2_).1⟩
        have hat9 : cl9.slots[((1 : Int32)).toNatClampNeg]? = some (.int (own_at cs 1)) := Hs9.at hin9 (own_bsD (hq2 w2_).1)
        have st9 := X0.baloadBytes hx (j := (1 : Int32)) (v := (.int (own_at cs 1))) (by rw [e0]; exact Ar9.1) (State.isArrayOf_alike hZ.alike Ar9.2.1) Ar9.2.2 hin9 hat9 (g := (mkF m 56 #[.val (.ref a), .val (.ref b), .val (.int p3), .val (.int (1 : Int32))] [(.int (1 : Int32)), (.ref a)])) rfl rfl (hb hby d_jdk_48_method_13_56)
        have V9 : Arv Z h0 a ka .byte (Int32.ofNat cs.length) (own_bs cs) (.int (0 : Int32)) := ⟨cl9, Ar9, q9, Sz9, Nn9, Hs9, Gt9⟩
        refine own_go (B := s₁.setTop (mkF m 57 #[.val (.ref a), .val (.ref b), .val (.int p3), .val (.int (1 : Int32))] [(.int (own_at cs 1))])) st9 ?_
        refine own_go (B := s₁.setTop (mkF m 59 #[.val (.ref a), .val (.ref b), .val (.int p3), .val (.int (1 : Int32))] [(.int (1 : Int32)), (.ref b), (.int (own_at cs 1))])) (fun t k => ?_) ?_
        · show Steps p.tables e below (s₁.setTop (mkF m 57 #[.val (.ref a), .val (.ref b), .val (.int p3), .val (.int (1 : Int32))] [(.int (own_at cs 1))])) _
          refine XS.aloadN X0.here hx rfl (hb hby d_jdk_48_method_13_57) rfl rfl ?_
          show Steps p.tables e below (s₁.setTop (mkF m 58 #[.val (.ref a), .val (.ref b), .val (.int p3), .val (.int (1 : Int32))] [(.ref b), (.int (own_at cs 1))])) _
          refine XS.iloadN X0.here hx rfl (hb hby d_jdk_48_method_13_58) rfl ?_
          show Steps p.tables e below (s₁.setTop (mkF m 59 #[.val (.ref a), .val (.ref b), .val (.int p3), .val (.int (1 : Int32))] [(.int (1 : Int32)), (.ref b), (.int (own_at cs 1))])) _
          exact k
        obtain ⟨cl10, Ar10, q10, Sz10, Nn10, Hs10, Gt10⟩ := V8
        have hin10 : ¬ ((1 : Int32) < 0 ∨ cl10.slots.size ≤ ((1 : Int32)).toNatClampNeg) := inb_of Sz10 ⟨by decide, own_oflt l2 (hq2 w2_).2⟩
        have hat10 : cl10.slots[((1 : Int32)).toNatClampNeg]? = some (.int (own_at ds 1)) := Hs10.at hin10 (own_bsD (hq2 w2_).2)
        have st10 := X0.baloadBytes hx (j := (1 : Int32)) (v := (.int (own_at ds 1))) (by rw [e0]; exact Ar10.1) (State.isArrayOf_alike hZ.alike Ar10.2.1) Ar10.2.2 hin10 hat10 (g := (mkF m 59 #[.val (.ref a), .val (.ref b), .val (.int p3), .val (.int (1 : Int32))] [(.int (1 : Int32)), (.ref b), (.int (own_at cs 1))])) rfl rfl (hb hby d_jdk_48_method_13_59)
        have V10 : Arv Z h0 b kb .byte (Int32.ofNat ds.length) (own_bs ds) (.int (0 : Int32)) := ⟨cl10, Ar10, q10, Sz10, Nn10, Hs10, Gt10⟩
        refine own_go (B := s₁.setTop (mkF m 60 #[.val (.ref a), .val (.ref b), .val (.int p3), .val (.int (1 : Int32))] [(.int (own_at ds 1)), (.int (own_at cs 1))])) st10 ?_
        by_cases qe1 : (own_at cs 1) = (own_at ds 1)
        · refine own_go (B := s₁.setTop (mkF m 72 #[.val (.ref a), .val (.ref b), .val (.int p3), .val (.int (2 : Int32))] [(.int (-1 : Int32))])) (fun t k => ?_) ?_
          · show Steps p.tables e below (s₁.setTop (mkF m 60 #[.val (.ref a), .val (.ref b), .val (.int p3), .val (.int (1 : Int32))] [(.int (own_at ds 1)), (.int (own_at cs 1))])) _
            refine XS.icmpYes X0.here hx rfl (pc0 := 60) (pc' := 65) rfl (hb hby d_jdk_48_method_13_60) rfl (teq qe1).1 (by decide) (by decide) ?_
            show Steps p.tables e below (s₁.setTop (mkF m 65 #[.val (.ref a), .val (.ref b), .val (.int p3), .val (.int (1 : Int32))] [])) _
            refine XS.iinc X0.here hx rfl (hb hby d_jdk_48_method_13_65) rfl (l' := #[.val (.ref a), .val (.ref b), .val (.int p3), .val (.int (2 : Int32))]) rfl ?_
            show Steps p.tables e below (s₁.setTop (mkF m 68 #[.val (.ref a), .val (.ref b), .val (.int p3), .val (.int (2 : Int32))] [])) _
            refine XS.goto X0.here hx rfl (pc0 := 68) (pc' := 49) rfl (hb hby d_jdk_48_method_13_68) (by decide) (by decide) ?_
            show Steps p.tables e below (s₁.setTop (mkF m 49 #[.val (.ref a), .val (.ref b), .val (.int p3), .val (.int (2 : Int32))] [])) _
            refine XS.iloadN X0.here hx rfl (hb hby d_jdk_48_method_13_49) rfl ?_
            show Steps p.tables e below (s₁.setTop (mkF m 50 #[.val (.ref a), .val (.ref b), .val (.int p3), .val (.int (2 : Int32))] [(.int (2 : Int32))])) _
            refine XS.iloadN X0.here hx rfl (hb hby d_jdk_48_method_13_50) rfl ?_
            show Steps p.tables e below (s₁.setTop (mkF m 51 #[.val (.ref a), .val (.ref b), .val (.int p3), .val (.int (2 : Int32))] [(.int p3), (.int (2 : Int32))])) _
            refine XS.icmpYes X0.here hx rfl (pc0 := 51) (pc' := 71) rfl (hb hby d_jdk_48_method_13_51) rfl (flt (by rw [w2_]; decide)).2.1 (by decide) (by decide) ?_
            show Steps p.tables e below (s₁.setTop (mkF m 71 #[.val (.ref a), .val (.ref b), .val (.int p3), .val (.int (2 : Int32))] [])) _
            refine XS.iconst X0.here hx rfl (hb hby d_jdk_48_method_13_71) ?_
            show Steps p.tables e below (s₁.setTop (mkF m 72 #[.val (.ref a), .val (.ref b), .val (.int p3), .val (.int (2 : Int32))] [(.int (-1 : Int32))])) _
            exact k
          obtain ⟨fs, hr, hrun, hended, hW, hsame⟩ := X0.leave (v := some (.int (-1 : Int32))) (fun h => by rw [Bd.returns] at h; cases h)
          refine ⟨_, _, retI X0 hx Bd.returns (hb hby d_jdk_48_method_13_72) hr, hfin _ _ ⟨hrun, hended, _, _, rfl, ?_, ⟨_, rfl⟩, hW, hsame.mono (by decide) (by decide)⟩⟩
          show QMis Z a b ka kb cs ds p3 h0 n0 _ s₁.heap _
          exact ⟨(-1 : Int32), rfl, N, e0, (show own_mis cs ds p3 = _ from ((if_neg w0_).trans ((if_pos qe0).trans ((if_neg w1_).trans (if_pos qe1))))).symm⟩
        · refine own_go (B := s₁.setTop (mkF m 64 #[.val (.ref a), .val (.ref b), .val (.int p3), .val (.int (1 : Int32))] [(.int (1 : Int32))])) (fun t k => ?_) ?_
          · show Steps p.tables e below (s₁.setTop (mkF m 60 #[.val (.ref a), .val (.ref b), .val (.int p3), .val (.int (1 : Int32))] [(.int (own_at ds 1)), (.int (own_at cs 1))])) _
            refine XS.icmpNo X0.here hx rfl (hb hby d_jdk_48_method_13_60) rfl (feq qe1).1 ?_
            show Steps p.tables e below (s₁.setTop (mkF m 63 #[.val (.ref a), .val (.ref b), .val (.int p3), .val (.int (1 : Int32))] [])) _
            refine XS.iloadN X0.here hx rfl (hb hby d_jdk_48_method_13_63) rfl ?_
            show Steps p.tables e below (s₁.setTop (mkF m 64 #[.val (.ref a), .val (.ref b), .val (.int p3), .val (.int (1 : Int32))] [(.int (1 : Int32))])) _
            exact k
          obtain ⟨fs, hr, hrun, hended, hW, hsame⟩ := X0.leave (v := some (.int (1 : Int32))) (fun h => by rw [Bd.returns] at h; cases h)
          refine ⟨_, _, retI X0 hx Bd.returns (hb hby d_jdk_48_method_13_64) hr, hfin _ _ ⟨hrun, hended, _, _, rfl, ?_, ⟨_, rfl⟩, hW, hsame.mono (by decide) (by decide)⟩⟩
          show QMis Z a b ka kb cs ds p3 h0 n0 _ s₁.heap _
          exact ⟨(1 : Int32), rfl, N, e0, (show own_mis cs ds p3 = _ from ((if_neg w0_).trans ((if_pos qe0).trans ((if_neg w1_).trans (if_neg qe1))))).symm⟩
      · refine own_go (B := s₁.setTop (mkF m 64 #[.val (.ref a), .val (.ref b), .val (.int p3), .val (.int (0 : Int32))] [(.int (0 : Int32))])) (fun t k => ?_) ?_
        · show Steps p.tables e below (s₁.setTop (mkF m 60 #[.val (.ref a), .val (.ref b), .val (.int p3), .val (.int (0 : Int32))] [(.int (own_at ds 0)), (.int (own_at cs 0))])) _
          refine XS.icmpNo X0.here hx rfl (hb hby d_jdk_48_method_13_60) rfl (feq qe0).1 ?_
          show Steps p.tables e below (s₁.setTop (mkF m 63 #[.val (.ref a), .val (.ref b), .val (.int p3), .val (.int (0 : Int32))] [])) _
          refine XS.iloadN X0.here hx rfl (hb hby d_jdk_48_method_13_63) rfl ?_
          show Steps p.tables e below (s₁.setTop (mkF m 64 #[.val (.ref a), .val (.ref b), .val (.int p3), .val (.int (0 : Int32))] [(.int (0 : Int32))])) _
          exact k
        obtain ⟨fs, hr, hrun, hended, hW, hsame⟩ := X0.leave (v := some (.int (0 : Int32))) (fun h => by rw [Bd.returns] at h; cases h)
        refine ⟨_, _, retI X0 hx Bd.returns (hb hby d_jdk_48_method_13_64) hr, hfin _ _ ⟨hrun, hended, _, _, rfl, ?_, ⟨_, rfl⟩, hW, hsame.mono (by decide) (by decide)⟩⟩
        show QMis Z a b ka kb cs ds p3 h0 n0 _ s₁.heap _
        exact ⟨(0 : Int32), rfl, N, e0, (show own_mis cs ds p3 = _ from ((if_neg w0_).trans (if_neg qe0))).symm⟩
def QGetC (Z : State) (a : Addr) (ka : ClassId) (cs : List Int32) (j : Nat) (h0 : Heap) (n0 : Nat) (v : Option Value) (h : Heap) (L : List Loc) : Prop := v = some (.int (cs.getD j 0)) ∧ Fr n0 L ∧ h = h0
theorem ef_GetC (m : MethodId) (a : Addr) (j : Nat) : entryFrame m #[(.ref a), (.int (Int32.ofNat j))] 2 = mkF m 0 #[.val (.ref a), .val (.int (Int32.ofNat j))] [] := by first | (simp [entryFrame, mkF, argsToLocals, Value.category]; done) | rfl | (rfl)
set_option maxRecDepth 65536 in
set_option maxHeartbeats 40000000 in
theorem rmGetC (l : Launch) (Z : State) (a0 : Array Value) (hw : ∀ d ∈ tables_1, d.before a0 Z = true) (ws : List Jvm.Cond) (a : Addr) (ka : ClassId) (cs : List Int32) (j : Nat) (h0 : Heap) (n0 : Nat) (O : Old Z n0 h0) (Va : Arv Z h0 a ka .byte (Int32.ofNat cs.length) (own_bs cs) (.int (0 : Int32))) (hj : j < cs.length) (l1 : cs.length ≤ 4000) (hbB : ∀ c ∈ cs, ¬ c < 0 ∧ ¬ (255 : Int32) < c) :
    MetFree l (⟨"java/lang/StringLatin1", "getChar", "([BI)C"⟩ : MethodName) (head1 (Jvm.Cond.code (⟨"java/lang/StringLatin1", "getChar", "([BI)C"⟩ : MethodName) jdk_43_method_44_code 2 (some .char) :: ws) ({ frames := 0, cells := 0, slots := 0, locals := 0 } : Room)) (fun as_ U => as_ = #[(.ref a), (.int (Int32.ofNat j))] ∧ Z.Warmed39 U.vm ∧ U.heap = h0) (fun _ _ _ _ _ => True) (fun _ U oo_ U' => ∃ vv_ LL_, oo_ = .returned vv_ ∧ QGetC Z a ka cs j h0 n0 vv_ U'.heap LL_ ∧ FrameEnd U oo_ U' LL_ ({ frames := 0, cells := 0, slots := 0, locals := 0 } : Room).cells ({ frames := 0, cells := 0, slots := 0, locals := 0 } : Room).slots) := by
  refine MetFree.of_bodySF (plainFor_of_name pn_2) hisR ?_
  intro p e s m args below meth c s₁ Bd hml0 hP hK
  obtain ⟨rfl, hZ, hh⟩ := hP
  have hx := Bd.exec
  have hby := Bd.bytes
  have hml : c.maxLocals = 2 := hml0
  have hown : s.vm.findClass "java/lang/StringLatin1" = some m.cls := findClass_of_methodNamed Bd.named
  have hnm := (name_of_methodNamed Bd.named Bd.method).1
  have X0 : Stand p l e ({ frames := 0, cells := 0, slots := 0, locals := 0 } : Room) s m #[(.ref a), (.int (Int32.ofNat j))] below meth c s₁ [] 0 0 := Stand.of_body Bd
  have e0 : s₁.heap = h0 := by rw [← hh, Bd.state]; rfl
  have N := Fr.nil n0
  have K : Keep h0 h0 [] := Keep.refl h0 _
  refine own_go (B := s₁.setTop (mkF m 0 #[.val (.ref a), .val (.int (Int32.ofNat j))] [])) (fun t k => castTop (ef_GetC m a j) k) ?_
  refine own_abs (fun P hfin => ?_)
  refine own_go (B := s₁.setTop (mkF m 2 #[.val (.ref a), .val (.int (Int32.ofNat j))] [(.int (Int32.ofNat j)), (.ref a)])) (fun t k => ?_) ?_
  · show Steps p.tables e below (s₁.setTop (mkF m 0 #[.val (.ref a), .val (.int (Int32.ofNat j))] [])) _
    refine XS.aloadN X0.here hx rfl (hb hby d_jdk_43_method_44_0) rfl rfl ?_
    show Steps p.tables e below (s₁.setTop (mkF m 1 #[.val (.ref a), .val (.int (Int32.ofNat j))] [(.ref a)])) _
    refine XS.iloadN X0.here hx rfl (hb hby d_jdk_43_method_44_1) rfl ?_
    show Steps p.tables e below (s₁.setTop (mkF m 2 #[.val (.ref a), .val (.int (Int32.ofNat j))] [(.int (Int32.ofNat j)), (.ref a)])) _
    exact k
  obtain ⟨cl1, Ar1, q1, Sz1, Nn1, Hs1, Gt1⟩ := Va
  have hin1 : ¬ ((Int32.ofNat j) < 0 ∨ cl1.slots.size ≤ ((Int32.ofNat j)).toNatClampNeg) := inb_of Sz1 ⟨own_ofnn l1 hj, own_oflt l1 hj⟩
  have hat1 : cl1.slots[((Int32.ofNat j)).toNatClampNeg]? = some (.int (own_at cs j)) := Hs1.at hin1 (by rw [own_clamp l1 hj]; exact own_bsD hj)
  have st1 := X0.baloadBytes hx (j := (Int32.ofNat j)) (v := (.int (own_at cs j))) (by rw [e0]; exact Ar1.1) (State.isArrayOf_alike hZ.alike Ar1.2.1) Ar1.2.2 hin1 hat1 (g := (mkF m 2 #[.val (.ref a), .val (.int (Int32.ofNat j))] [(.int (Int32.ofNat j)), (.ref a)])) rfl rfl (hb hby d_jdk_43_method_44_2)
  have V1 : Arv Z h0 a ka .byte (Int32.ofNat cs.length) (own_bs cs) (.int (0 : Int32)) := ⟨cl1, Ar1, q1, Sz1, Nn1, Hs1, Gt1⟩
  refine own_go (B := s₁.setTop (mkF m 3 #[.val (.ref a), .val (.int (Int32.ofNat j))] [(.int (own_at cs j))])) st1 ?_
  refine own_go (B := s₁.setTop (mkF m 8 #[.val (.ref a), .val (.int (Int32.ofNat j))] [(.int (((own_at cs j) &&& (255 : Int32)).toUInt32.toUInt16.toUInt32.toInt32))])) (fun t k => ?_) ?_
  · show Steps p.tables e below (s₁.setTop (mkF m 3 #[.val (.ref a), .val (.int (Int32.ofNat j))] [(.int (own_at cs j))])) _
    refine XS.sipush X0.here hx rfl (hb hby d_jdk_43_method_44_3) ?_
    show Steps p.tables e below (s₁.setTop (mkF m 6 #[.val (.ref a), .val (.int (Int32.ofNat j))] [(.int (255 : Int32)), (.int (own_at cs j))])) _
    refine XS.iand X0.here hx rfl (hb hby d_jdk_43_method_44_6) rfl ?_
    show Steps p.tables e below (s₁.setTop (mkF m 7 #[.val (.ref a), .val (.int (Int32.ofNat j))] [(.int ((own_at cs j) &&& (255 : Int32)))])) _
    refine XS.i2c X0.here hx rfl (hb hby d_jdk_43_method_44_7) rfl ?_
    show Steps p.tables e below (s₁.setTop (mkF m 8 #[.val (.ref a), .val (.int (Int32.ofNat j))] [(.int (((own_at cs j) &&& (255 : Int32)).toUInt32.toUInt16.toUInt32.toInt32))])) _
    exact k
  obtain ⟨fs, hr, hrun, hended, hW, hsame⟩ := X0.leave (v := some (.int (nar .char (((own_at cs j) &&& (255 : Int32)).toUInt32.toUInt16.toUInt32.toInt32)))) (fun h => by rw [Bd.returns] at h; cases h)
  refine ⟨_, _, retN X0 hx (t := .char) Bd.returns (by simp) (hb hby d_jdk_43_method_44_8) hr, hfin _ _ ⟨hrun, hended, _, _, rfl, ?_, ⟨_, rfl⟩, hW, hsame.mono (by decide) (by decide)⟩⟩
  show QGetC Z a ka cs j h0 n0 _ s₁.heap _
  exact ⟨(congrArg (fun z => some (Value.int z)) (own_getc hbB hj)), N, e0⟩
def QCmp4 (Z : State) (a : Addr) (b : Addr) (ka : ClassId) (kb : ClassId) (cs : List Int32) (ds : List Int32) (h0 : Heap) (n0 : Nat) (v : Option Value) (h : Heap) (L : List Loc) : Prop := ∃ vv : Int32, v = some (.int vv) ∧ Fr n0 L ∧ h = h0 ∧ (vv = own_cmp cs ds)
theorem ef_Cmp4 (m : MethodId) (a : Addr) (b : Addr) (cs : List Int32) (ds : List Int32) : entryFrame m #[(.ref a), (.ref b), (.int (Int32.ofNat cs.length)), (.int (Int32.ofNat ds.length))] 6 = mkF m 0 #[.val (.ref a), .val (.ref b), .val (.int (Int32.ofNat cs.length)), .val (.int (Int32.ofNat ds.length)), .unset, .unset] [] := by first | (simp [entryFrame, mkF, argsToLocals, Value.category]; done) | rfl | (rfl)
set_option maxRecDepth 65536 in
set_option maxHeartbeats 40000000 in
theorem rmCmp4 (l : Launch) (Z : State) (a0 : Array Value) (hw : ∀ d ∈ tables_1, d.before a0 Z = true) (ws : List Jvm.Cond) (a : Addr) (b : Addr) (ka : ClassId) (kb : ClassId) (cs : List Int32) (ds : List Int32) (h0 : Heap) (n0 : Nat) (O : Old Z n0 h0) (Va : Arv Z h0 a ka .byte (Int32.ofNat cs.length) (own_bs cs) (.int (0 : Int32))) (Vb : Arv Z h0 b kb .byte (Int32.ofNat ds.length) (own_bs ds) (.int (0 : Int32))) (hbB : ∀ c ∈ cs, ¬ c < 0 ∧ ¬ (255 : Int32) < c) (hd : ∀ c ∈ ds, ¬ c < 0 ∧ ¬ (255 : Int32) < c) (c2 : cs.length ≤ 2) (d2 : ds.length ≤ 2) :
    MetFree l (⟨"java/lang/StringLatin1", "compareTo", "([B[BII)I"⟩ : MethodName) (head1 (Jvm.Cond.code (⟨"java/lang/StringLatin1", "compareTo", "([B[BII)I"⟩ : MethodName) jdk_43_method_15_code 6 (some .int) :: ws) ({ frames := 1, cells := 0, slots := 0, locals := 15 } : Room)) (fun as_ U => as_ = #[(.ref a), (.ref b), (.int (Int32.ofNat cs.length)), (.int (Int32.ofNat ds.length))] ∧ Z.Warmed39 U.vm ∧ U.heap = h0) (fun _ _ _ _ _ => True) (fun _ U oo_ U' => ∃ vv_ LL_, oo_ = .returned vv_ ∧ QCmp4 Z a b ka kb cs ds h0 n0 vv_ U'.heap LL_ ∧ FrameEnd U oo_ U' LL_ ({ frames := 1, cells := 0, slots := 0, locals := 15 } : Room).cells ({ frames := 1, cells := 0, slots := 0, locals := 15 } : Room).slots) := by
  refine MetFree.of_bodySF (plainFor_of_name pn_2) hisR ?_
  intro p e s m args below meth c s₁ Bd hml0 hP hK
  obtain ⟨rfl, hZ, hh⟩ := hP
  have hx := Bd.exec
  have hby := Bd.bytes
  have hml : c.maxLocals = 6 := hml0
  have hown : s.vm.findClass "java/lang/StringLatin1" = some m.cls := findClass_of_methodNamed Bd.named
  have hnm := (name_of_methodNamed Bd.named Bd.method).1
  have X0 : Stand p l e ({ frames := 1, cells := 0, slots := 0, locals := 15 } : Room) s m #[(.ref a), (.ref b), (.int (Int32.ofNat cs.length)), (.int (Int32.ofNat ds.length))] below meth c s₁ [] 0 0 := Stand.of_body Bd
  have e0 : s₁.heap = h0 := by rw [← hh, Bd.state]; rfl
  have N := Fr.nil n0
  have K : Keep h0 h0 [] := Keep.refl h0 _
  refine own_go (B := s₁.setTop (mkF m 0 #[.val (.ref a), .val (.ref b), .val (.int (Int32.ofNat cs.length)), .val (.int (Int32.ofNat ds.length)), .unset, .unset] [])) (fun t k => castTop (ef_Cmp4 m a b cs ds) k) ?_
  refine own_abs (fun P hfin => ?_)
  refine own_go (B := s₁.setTop (mkF m 2 #[.val (.ref a), .val (.ref b), .val (.int (Int32.ofNat cs.length)), .val (.int (Int32.ofNat ds.length)), .unset, .unset] [(.int (Int32.ofNat ds.length)), (.int (Int32.ofNat cs.length))])) (fun t k => ?_) ?_
  · show Steps p.tables e below (s₁.setTop (mkF m 0 #[.val (.ref a), .val (.ref b), .val (.int (Int32.ofNat cs.length)), .val (.int (Int32.ofNat ds.length)), .unset, .unset] [])) _
    refine XS.iloadN X0.here hx rfl (hb hby d_jdk_43_method_15_0) rfl ?_
    show Steps p.tables e below (s₁.setTop (mkF m 1 #[.val (.ref a), .val (.ref b), .val (.int (Int32.ofNat cs.length)), .val (.int (Int32.ofNat ds.length)), .unset, .unset] [(.int (Int32.ofNat cs.length))])) _
    refine XS.iloadN X0.here hx rfl (hb hby d_jdk_43_method_15_1) rfl ?_
    show Steps p.tables e below (s₁.setTop (mkF m 2 #[.val (.ref a), .val (.ref b), .val (.int (Int32.ofNat cs.length)), .val (.int (Int32.ofNat ds.length)), .unset, .unset] [(.int (Int32.ofNat ds.length)), (.int (Int32.ofNat cs.length))])) _
    exact k
  -- pc 2: java/lang/Math.min
  obtain ⟨_, _, ⟨T1, L1, k1, n1⟩, -, X1, ⟨Lc1, hQ1, l1, y1, z1⟩, st1⟩ := Jvm.LawKit.callS X0 hx (y := (⟨"java/lang/Math", "min", "(II)I"⟩ : MethodName)) hown (mvT hZ (hw _ (List.mem_of_getElem? (i := 95) rfl))) (mvT hZ (hw _ (List.mem_of_getElem? (i := 96) rfl))) (mvT hZ (hw _ (List.mem_of_getElem? (i := 97) rfl))) (mvT hZ (hw _ (List.mem_of_getElem? (i := 98) rfl))) (by decide) (backOf (W := 0) (rmMin l Z a0 hw [] (Int32.ofNat cs.length) (Int32.ofNat ds.length) h0 n0 O ) hZ (hw _ (List.mem_of_getElem? (i := 98) rfl)) (hw _ (List.mem_of_getElem? (i := 97) rfl)) (by decide) (by decide)) (g := (mkF m 2 #[.val (.ref a), .val (.ref b), .val (.int (Int32.ofNat cs.length)), .val (.int (Int32.ofNat ds.length)), .unset, .unset] [(.int (Int32.ofNat ds.length)), (.int (Int32.ofNat cs.length))])) rfl (by rw [hml]; rfl) (argsL := [(.int (Int32.ofNat cs.length)), (.int (Int32.ofNat ds.length))]) (rest := []) (lenOf pd_4 rfl) rfl (by show 2 * 0 + _ ≤ _; exact Nat.le_of_eq rfl) (hb hby d_jdk_43_method_15_2) (fun _ hWm => ⟨rfl, e0, (by decide : 0 + 0 ≤ _), (by decide : 0 + 0 ≤ _)⟩)
  dsimp only [Pt.U, Pt.locs, Pt.cells, Pt.slots] at X1 l1 y1 z1 st1 hQ1
  subst l1 y1 z1
  obtain ⟨b1, rfl, Nq1, Kq1, cq1_0⟩ := hQ1
  replace N := Fr.app N Nq1
  refine own_go (B := T1.setTop (mkF m 5 #[.val (.ref a), .val (.ref b), .val (.int (Int32.ofNat cs.length)), .val (.int (Int32.ofNat ds.length)), .unset, .unset] [(.int b1)])) st1 ?_
  refine own_go (B := T1.setTop (mkF m 7 #[.val (.ref a), .val (.ref b), .val (.int (Int32.ofNat cs.length)), .val (.int (Int32.ofNat ds.length)), .val (.int b1), .unset] [])) (fun t k => ?_) ?_
  · show Steps p.tables e below (T1.setTop (mkF m 5 #[.val (.ref a), .val (.ref b), .val (.int (Int32.ofNat cs.length)), .val (.int (Int32.ofNat ds.length)), .unset, .unset] [(.int b1)])) _
    refine XS.istore X1.here hx rfl (hb hby d_jdk_43_method_15_5) rfl (l' := #[.val (.ref a), .val (.ref b), .val (.int (Int32.ofNat cs.length)), .val (.int (Int32.ofNat ds.length)), .val (.int b1), .unset]) rfl ?_
    show Steps p.tables e below (T1.setTop (mkF m 7 #[.val (.ref a), .val (.ref b), .val (.int (Int32.ofNat cs.length)), .val (.int (Int32.ofNat ds.length)), .val (.int b1), .unset] [])) _
    exact k
  have hm : b1 = Int32.ofNat (min cs.length ds.length) := cq1_0.trans (own_minlen c2 d2)
  have hpr := own_mprops c2 d2 hm
  refine own_go (B := T1.setTop (mkF m 11 #[.val (.ref a), .val (.ref b), .val (.int (Int32.ofNat cs.length)), .val (.int (Int32.ofNat ds.length)), .val (.int b1), .unset] [(.int b1), (.ref b), (.ref a)])) (fun t k => ?_) ?_
  · show Steps p.tables e below (T1.setTop (mkF m 7 #[.val (.ref a), .val (.ref b), .val (.int (Int32.ofNat cs.length)), .val (.int (Int32.ofNat ds.length)), .val (.int b1), .unset] [])) _
    refine XS.aloadN X1.here hx rfl (hb hby d_jdk_43_method_15_7) rfl rfl ?_
    show Steps p.tables e below (T1.setTop (mkF m 8 #[.val (.ref a), .val (.ref b), .val (.int (Int32.ofNat cs.length)), .val (.int (Int32.ofNat ds.length)), .val (.int b1), .unset] [(.ref a)])) _
    refine XS.aloadN X1.here hx rfl (hb hby d_jdk_43_method_15_8) rfl rfl ?_
    show Steps p.tables e below (T1.setTop (mkF m 9 #[.val (.ref a), .val (.ref b), .val (.int (Int32.ofNat cs.length)), .val (.int (Int32.ofNat ds.length)), .val (.int b1), .unset] [(.ref b), (.ref a)])) _
    refine XS.iload X1.here hx rfl (hb hby d_jdk_43_method_15_9) rfl ?_
    show Steps p.tables e below (T1.setTop (mkF m 11 #[.val (.ref a), .val (.ref b), .val (.int (Int32.ofNat cs.length)), .val (.int (Int32.ofNat ds.length)), .val (.int b1), .unset] [(.int b1), (.ref b), (.ref a)])) _
    exact k
  -- pc 11: jdk/internal/util/ArraysSupport.mismatch
  obtain ⟨_, _, ⟨T2, L2, k2, n2⟩, -, X2, ⟨Lc2, hQ2, l2, y2, z2⟩, st2⟩ := Jvm.LawKit.callS X1 hx (y := (⟨"jdk/internal/util/ArraysSupport", "mismatch", "([B[BI)I"⟩ : MethodName)) hown (mvT hZ (hw _ (List.mem_of_getElem? (i := 99) rfl))) (mvT hZ (hw _ (List.mem_of_getElem? (i := 100) rfl))) (mvT hZ (hw _ (List.mem_of_getElem? (i := 101) rfl))) (mvT hZ (hw _ (List.mem_of_getElem? (i := 102) rfl))) (by decide) (backOf (W := 0) (rmMis l Z a0 hw [] a b ka kb cs ds b1 h0 n0 O Va Vb hpr.1 hpr.2.1 hpr.2.2 (by omega) (by omega)) hZ (hw _ (List.mem_of_getElem? (i := 102) rfl)) (hw _ (List.mem_of_getElem? (i := 101) rfl)) (by decide) (by decide)) (g := (mkF m 11 #[.val (.ref a), .val (.ref b), .val (.int (Int32.ofNat cs.length)), .val (.int (Int32.ofNat ds.length)), .val (.int b1), .unset] [(.int b1), (.ref b), (.ref a)])) rfl (by rw [hml]; rfl) (argsL := [(.ref a), (.ref b), (.int b1)]) (rest := []) (lenOf pd_5 rfl) rfl (by show 2 * 0 + _ ≤ _; exact Nat.le_of_eq rfl) (hb hby d_jdk_43_method_15_11) (fun _ hWm => ⟨rfl, Kq1, (by decide : 0 + 0 ≤ _), (by decide : 0 + 0 ≤ _)⟩)
  dsimp only [Pt.U, Pt.locs, Pt.cells, Pt.slots] at X2 l2 y2 z2 st2 hQ2
  subst l2 y2 z2
  obtain ⟨r2, rfl, Nq2, Kq2, cq2_0⟩ := hQ2
  replace N := Fr.app N Nq2
  refine own_go (B := T2.setTop (mkF m 14 #[.val (.ref a), .val (.ref b), .val (.int (Int32.ofNat cs.length)), .val (.int (Int32.ofNat ds.length)), .val (.int b1), .unset] [(.int r2)])) st2 ?_
  refine own_go (B := T2.setTop (mkF m 16 #[.val (.ref a), .val (.ref b), .val (.int (Int32.ofNat cs.length)), .val (.int (Int32.ofNat ds.length)), .val (.int b1), .val (.int r2)] [])) (fun t k => ?_) ?_
  · show Steps p.tables e below (T2.setTop (mkF m 14 #[.val (.ref a), .val (.ref b), .val (.int (Int32.ofNat cs.length)), .val (.int (Int32.ofNat ds.length)), .val (.int b1), .unset] [(.int r2)])) _
    refine XS.istore X2.here hx rfl (hb hby d_jdk_43_method_15_14) rfl (l' := #[.val (.ref a), .val (.ref b), .val (.int (Int32.ofNat cs.length)), .val (.int (Int32.ofNat ds.length)), .val (.int b1), .val (.int r2)]) rfl ?_
    show Steps p.tables e below (T2.setTop (mkF m 16 #[.val (.ref a), .val (.ref b), .val (.int (Int32.ofNat cs.length)), .val (.int (Int32.ofNat ds.length)), .val (.int b1), .val (.int r2)] [])) _
    exact k
  have hrr : r2 = own_mis cs ds (Int32.ofNat (min cs.length ds.length)) := by rw [cq2_0, hm]
  by_cases r0 : r2 < (0 : Int32)
  · refine own_go (B := T2.setTop (mkF m 40 #[.val (.ref a), .val (.ref b), .val (.int (Int32.ofNat cs.length)), .val (.int (Int32.ofNat ds.length)), .val (.int b1), .val (.int r2)] [(.int ((Int32.ofNat cs.length) - (Int32.ofNat ds.length)))])) (fun t k => ?_) ?_
    · show Steps p.tables e below (T2.setTop (mkF m 16 #[.val (.ref a), .val (.ref b), .val (.int (Int32.ofNat cs.length)), .val (.int (Int32.ofNat ds.length)), .val (.int b1), .val (.int r2)] [])) _
      refine XS.iload X2.here hx rfl (hb hby d_jdk_43_method_15_16) rfl ?_
      show Steps p.tables e below (T2.setTop (mkF m 18 #[.val (.ref a), .val (.ref b), .val (.int (Int32.ofNat cs.length)), .val (.int (Int32.ofNat ds.length)), .val (.int b1), .val (.int r2)] [(.int r2)])) _
      refine XS.ifNo X2.here hx rfl (hb hby d_jdk_43_method_15_18) rfl ((if0 _ _).trans (tlt r0).2.1) ?_
      show Steps p.tables e below (T2.setTop (mkF m 21 #[.val (.ref a), .val (.ref b), .val (.int (Int32.ofNat cs.length)), .val (.int (Int32.ofNat ds.length)), .val (.int b1), .val (.int r2)] [])) _
      refine XS.iloadN X2.here hx rfl (hb hby d_jdk_43_method_15_21) rfl ?_
      show Steps p.tables e below (T2.setTop (mkF m 22 #[.val (.ref a), .val (.ref b), .val (.int (Int32.ofNat cs.length)), .val (.int (Int32.ofNat ds.length)), .val (.int b1), .val (.int r2)] [(.int (Int32.ofNat cs.length))])) _
      refine XS.iloadN X2.here hx rfl (hb hby d_jdk_43_method_15_22) rfl ?_
      show Steps p.tables e below (T2.setTop (mkF m 23 #[.val (.ref a), .val (.ref b), .val (.int (Int32.ofNat cs.length)), .val (.int (Int32.ofNat ds.length)), .val (.int b1), .val (.int r2)] [(.int (Int32.ofNat ds.length)), (.int (Int32.ofNat cs.length))])) _
      refine XS.isub X2.here hx rfl (hb hby d_jdk_43_method_15_23) rfl ?_
      show Steps p.tables e below (T2.setTop (mkF m 24 #[.val (.ref a), .val (.ref b), .val (.int (Int32.ofNat cs.length)), .val (.int (Int32.ofNat ds.length)), .val (.int b1), .val (.int r2)] [(.int ((Int32.ofNat cs.length) - (Int32.ofNat ds.length)))])) _
      refine XS.goto X2.here hx rfl (pc0 := 24) (pc' := 40) rfl (hb hby d_jdk_43_method_15_24) (by decide) (by decide) ?_
      show Steps p.tables e below (T2.setTop (mkF m 40 #[.val (.ref a), .val (.ref b), .val (.int (Int32.ofNat cs.length)), .val (.int (Int32.ofNat ds.length)), .val (.int b1), .val (.int r2)] [(.int ((Int32.ofNat cs.length) - (Int32.ofNat ds.length)))])) _
      exact k
    obtain ⟨fs, hr, hrun, hended, hW, hsame⟩ := X2.leave (v := some (.int ((Int32.ofNat cs.length) - (Int32.ofNat ds.length)))) (fun h => by rw [Bd.returns] at h; cases h)
    refine ⟨_, _, retI X2 hx Bd.returns (hb hby d_jdk_43_method_15_40) hr, hfin _ _ ⟨hrun, hended, _, _, rfl, ?_, ⟨_, rfl⟩, hW, hsame.mono (by decide) (by decide)⟩⟩
    show QCmp4 Z a b ka kb cs ds h0 n0 _ T2.heap _
    exact ⟨((Int32.ofNat cs.length) - (Int32.ofNat ds.length)), rfl, N, Kq2, (own_cmpA hrr r0)⟩
  · refine own_go (B := T2.setTop (mkF m 27 #[.val (.ref a), .val (.ref b), .val (.int (Int32.ofNat cs.length)), .val (.int (Int32.ofNat ds.length)), .val (.int b1), .val (.int r2)] [])) (fun t k => ?_) ?_
    · show Steps p.tables e below (T2.setTop (mkF m 16 #[.val (.ref a), .val (.ref b), .val (.int (Int32.ofNat cs.length)), .val (.int (Int32.ofNat ds.length)), .val (.int b1), .val (.int r2)] [])) _
      refine XS.iload X2.here hx rfl (hb hby d_jdk_43_method_15_16) rfl ?_
      show Steps p.tables e below (T2.setTop (mkF m 18 #[.val (.ref a), .val (.ref b), .val (.int (Int32.ofNat cs.length)), .val (.int (Int32.ofNat ds.length)), .val (.int b1), .val (.int r2)] [(.int r2)])) _
      refine XS.ifYes X2.here hx rfl (pc0 := 18) (pc' := 27) rfl (hb hby d_jdk_43_method_15_18) rfl ((if0 _ _).trans (flt r0).2.1) (by decide) (by decide) ?_
      show Steps p.tables e below (T2.setTop (mkF m 27 #[.val (.ref a), .val (.ref b), .val (.int (Int32.ofNat cs.length)), .val (.int (Int32.ofNat ds.length)), .val (.int b1), .val (.int r2)] [])) _
      exact k
    have hnz := own_mis_val (cs := cs) (ds := ds) (n := Int32.ofNat (min cs.length ds.length))
    by_cases z0 : r2 = (0 : Int32)
    · refine own_go (B := T2.setTop (mkF m 28 #[.val (.ref a), .val (.ref b), .val (.int (Int32.ofNat cs.length)), .val (.int (Int32.ofNat ds.length)), .val (.int b1), .val (.int r2)] [(.ref a)])) (fun t k => ?_) ?_
      · show Steps p.tables e below (T2.setTop (mkF m 27 #[.val (.ref a), .val (.ref b), .val (.int (Int32.ofNat cs.length)), .val (.int (Int32.ofNat ds.length)), .val (.int b1), .val (.int r2)] [])) _
        refine XS.aloadN X2.here hx rfl (hb hby d_jdk_43_method_15_27) rfl rfl ?_
        show Steps p.tables e below (T2.setTop (mkF m 28 #[.val (.ref a), .val (.ref b), .val (.int (Int32.ofNat cs.length)), .val (.int (Int32.ofNat ds.length)), .val (.int b1), .val (.int r2)] [(.ref a)])) _
        exact k
      have hi := own_in0 c2 d2 (hrr.symm.trans z0)
      subst z0
      refine own_go (B := T2.setTop (mkF m 30 #[.val (.ref a), .val (.ref b), .val (.int (Int32.ofNat cs.length)), .val (.int (Int32.ofNat ds.length)), .val (.int b1), .val (.int (0 : Int32))] [(.int (0 : Int32)), (.ref a)])) (fun t k => ?_) ?_
      · show Steps p.tables e below (T2.setTop (mkF m 28 #[.val (.ref a), .val (.ref b), .val (.int (Int32.ofNat cs.length)), .val (.int (Int32.ofNat ds.length)), .val (.int b1), .val (.int (0 : Int32))] [(.ref a)])) _
        refine XS.iload X2.here hx rfl (hb hby d_jdk_43_method_15_28) rfl ?_
        show Steps p.tables e below (T2.setTop (mkF m 30 #[.val (.ref a), .val (.ref b), .val (.int (Int32.ofNat cs.length)), .val (.int (Int32.ofNat ds.length)), .val (.int b1), .val (.int (0 : Int32))] [(.int (0 : Int32)), (.ref a)])) _
        exact k
      -- pc 30: java/lang/StringLatin1.getChar
      obtain ⟨_, _, ⟨T4, L4, k4, n4⟩, -, X4, ⟨Lc4, hQ4, l4, y4, z4⟩, st4⟩ := Jvm.LawKit.callS X2 hx (y := (⟨"java/lang/StringLatin1", "getChar", "([BI)C"⟩ : MethodName)) hown (mvT hZ (hw _ (List.mem_of_getElem? (i := 103) rfl))) (mvT hZ (hw _ (List.mem_of_getElem? (i := 104) rfl))) (mvT hZ (hw _ (List.mem_of_getElem? (i := 70) rfl))) (mvT hZ (hw _ (List.mem_of_getElem? (i := 105) rfl))) (by decide) (backOf (W := 0) (rmGetC l Z a0 hw [] a ka cs (0) h0 n0 O Va hi.1 (by omega) hbB) hZ (hw _ (List.mem_of_getElem? (i := 105) rfl)) (hw _ (List.mem_of_getElem? (i := 70) rfl)) (by decide) (by decide)) (g := (mkF m 30 #[.val (.ref a), .val (.ref b), .val (.int (Int32.ofNat cs.length)), .val (.int (Int32.ofNat ds.length)), .val (.int b1), .val (.int (0 : Int32))] [(.int (0 : Int32)), (.ref a)])) rfl (by rw [hml]; rfl) (argsL := [(.ref a), (.int (0 : Int32))]) (rest := []) (lenOf pd_6 rfl) rfl (by show 2 * 0 + _ ≤ _; exact Nat.le_of_eq rfl) (hb hby d_jdk_43_method_15_30) (fun _ hWm => ⟨rfl, Kq2, (by decide : 0 + 0 ≤ _), (by decide : 0 + 0 ≤ _)⟩)
      dsimp only [Pt.U, Pt.locs, Pt.cells, Pt.slots] at X4 l4 y4 z4 st4 hQ4
      subst l4 y4 z4
      obtain ⟨rfl, Nq4, Kq4⟩ := hQ4
      replace N := Fr.app N Nq4
      refine own_go (B := T4.setTop (mkF m 33 #[.val (.ref a), .val (.ref b), .val (.int (Int32.ofNat cs.length)), .val (.int (Int32.ofNat ds.length)), .val (.int b1), .val (.int (0 : Int32))] [(.int (cs.getD 0 0))])) st4 ?_
      refine own_go (B := T4.setTop (mkF m 36 #[.val (.ref a), .val (.ref b), .val (.int (Int32.ofNat cs.length)), .val (.int (Int32.ofNat ds.length)), .val (.int b1), .val (.int (0 : Int32))] [(.int (0 : Int32)), (.ref b), (.int (cs.getD 0 0))])) (fun t k => ?_) ?_
      · show Steps p.tables e below (T4.setTop (mkF m 33 #[.val (.ref a), .val (.ref b), .val (.int (Int32.ofNat cs.length)), .val (.int (Int32.ofNat ds.length)), .val (.int b1), .val (.int (0 : Int32))] [(.int (cs.getD 0 0))])) _
        refine XS.aloadN X4.here hx rfl (hb hby d_jdk_43_method_15_33) rfl rfl ?_
        show Steps p.tables e below (T4.setTop (mkF m 34 #[.val (.ref a), .val (.ref b), .val (.int (Int32.ofNat cs.length)), .val (.int (Int32.ofNat ds.length)), .val (.int b1), .val (.int (0 : Int32))] [(.ref b), (.int (cs.getD 0 0))])) _
        refine XS.iload X4.here hx rfl (hb hby d_jdk_43_method_15_34) rfl ?_
        show Steps p.tables e below (T4.setTop (mkF m 36 #[.val (.ref a), .val (.ref b), .val (.int (Int32.ofNat cs.length)), .val (.int (Int32.ofNat ds.length)), .val (.int b1), .val (.int (0 : Int32))] [(.int (0 : Int32)), (.ref b), (.int (cs.getD 0 0))])) _
        exact k
      -- pc 36: java/lang/StringLatin1.getChar
      obtain ⟨_, _, ⟨T5, L5, k5, n5⟩, -, X5, ⟨Lc5, hQ5, l5, y5, z5⟩, st5⟩ := Jvm.LawKit.callS X4 hx (y := (⟨"java/lang/StringLatin1", "getChar", "([BI)C"⟩ : MethodName)) hown (mvT hZ (hw _ (List.mem_of_getElem? (i := 103) rfl))) (mvT hZ (hw _ (List.mem_of_getElem? (i := 104) rfl))) (mvT hZ (hw _ (List.mem_of_getElem? (i := 70) rfl))) (mvT hZ (hw _ (List.mem_of_getElem? (i := 105) rfl))) (by decide) (backOf (W := 1) (rmGetC l Z a0 hw [] b kb ds (0) h0 n0 O Vb hi.2 (by omega) hd) hZ (hw _ (List.mem_of_getElem? (i := 105) rfl)) (hw _ (List.mem_of_getElem? (i := 70) rfl)) (by decide) (by decide)) (g := (mkF m 36 #[.val (.ref a), .val (.ref b), .val (.int (Int32.ofNat cs.length)), .val (.int (Int32.ofNat ds.length)), .val (.int b1), .val (.int (0 : Int32))] [(.int (0 : Int32)), (.ref b), (.int (cs.getD 0 0))])) rfl (by rw [hml]; rfl) (argsL := [(.ref b), (.int (0 : Int32))]) (rest := [(.int (cs.getD 0 0))]) (lenOf pd_6 rfl) rfl (by show 2 * 0 + _ ≤ _; exact Nat.le_of_eq rfl) (hb hby d_jdk_43_method_15_36) (fun _ hWm => ⟨rfl, Kq4, (by decide : 0 + 0 ≤ _), (by decide : 0 + 0 ≤ _)⟩)
      dsimp only [Pt.U, Pt.locs, Pt.cells, Pt.slots] at X5 l5 y5 z5 st5 hQ5
      subst l5 y5 z5
      obtain ⟨rfl, Nq5, Kq5⟩ := hQ5
      replace N := Fr.app N Nq5
      refine own_go (B := T5.setTop (mkF m 39 #[.val (.ref a), .val (.ref b), .val (.int (Int32.ofNat cs.length)), .val (.int (Int32.ofNat ds.length)), .val (.int b1), .val (.int (0 : Int32))] [(.int (ds.getD 0 0)), (.int (cs.getD 0 0))])) st5 ?_
      refine own_go (B := T5.setTop (mkF m 40 #[.val (.ref a), .val (.ref b), .val (.int (Int32.ofNat cs.length)), .val (.int (Int32.ofNat ds.length)), .val (.int b1), .val (.int (0 : Int32))] [(.int ((cs.getD 0 0) - (ds.getD 0 0)))])) (fun t k => ?_) ?_
      · show Steps p.tables e below (T5.setTop (mkF m 39 #[.val (.ref a), .val (.ref b), .val (.int (Int32.ofNat cs.length)), .val (.int (Int32.ofNat ds.length)), .val (.int b1), .val (.int (0 : Int32))] [(.int (ds.getD 0 0)), (.int (cs.getD 0 0))])) _
        refine XS.isub X5.here hx rfl (hb hby d_jdk_43_method_15_39) rfl ?_
        show Steps p.tables e below (T5.setTop (mkF m 40 #[.val (.ref a), .val (.ref b), .val (.int (Int32.ofNat cs.length)), .val (.int (Int32.ofNat ds.length)), .val (.int b1), .val (.int (0 : Int32))] [(.int ((cs.getD 0 0) - (ds.getD 0 0)))])) _
        exact k
      obtain ⟨fs, hr, hrun, hended, hW, hsame⟩ := X5.leave (v := some (.int ((cs.getD 0 0) - (ds.getD 0 0)))) (fun h => by rw [Bd.returns] at h; cases h)
      refine ⟨_, _, retI X5 hx Bd.returns (hb hby d_jdk_43_method_15_40) hr, hfin _ _ ⟨hrun, hended, _, _, rfl, ?_, ⟨_, rfl⟩, hW, hsame.mono (by decide) (by decide)⟩⟩
      show QCmp4 Z a b ka kb cs ds h0 n0 _ T5.heap _
      exact ⟨((cs.getD 0 0) - (ds.getD 0 0)), rfl, N, Kq5, (own_cmpB hrr)⟩
    · refine own_go (B := T2.setTop (mkF m 28 #[.val (.ref a), .val (.ref b), .val (.int (Int32.ofNat cs.length)), .val (.int (Int32.ofNat ds.length)), .val (.int b1), .val (.int r2)] [(.ref a)])) (fun t k => ?_) ?_
      · show Steps p.tables e below (T2.setTop (mkF m 27 #[.val (.ref a), .val (.ref b), .val (.int (Int32.ofNat cs.length)), .val (.int (Int32.ofNat ds.length)), .val (.int b1), .val (.int r2)] [])) _
        refine XS.aloadN X2.here hx rfl (hb hby d_jdk_43_method_15_27) rfl rfl ?_
        show Steps p.tables e below (T2.setTop (mkF m 28 #[.val (.ref a), .val (.ref b), .val (.int (Int32.ofNat cs.length)), .val (.int (Int32.ofNat ds.length)), .val (.int b1), .val (.int r2)] [(.ref a)])) _
        exact k
      have z1 : r2 = (1 : Int32) := own_one hnz hrr r0 z0
      have hi := own_in1 c2 d2 (hrr.symm.trans z1)
      subst z1
      refine own_go (B := T2.setTop (mkF m 30 #[.val (.ref a), .val (.ref b), .val (.int (Int32.ofNat cs.length)), .val (.int (Int32.ofNat ds.length)), .val (.int b1), .val (.int (1 : Int32))] [(.int (1 : Int32)), (.ref a)])) (fun t k => ?_) ?_
      · show Steps p.tables e below (T2.setTop (mkF m 28 #[.val (.ref a), .val (.ref b), .val (.int (Int32.ofNat cs.length)), .val (.int (Int32.ofNat ds.length)), .val (.int b1), .val (.int (1 : Int32))] [(.ref a)])) _
        refine XS.iload X2.here hx rfl (hb hby d_jdk_43_method_15_28) rfl ?_
        show Steps p.tables e below (T2.setTop (mkF m 30 #[.val (.ref a), .val (.ref b), .val (.int (Int32.ofNat cs.length)), .val (.int (Int32.ofNat ds.length)), .val (.int b1), .val (.int (1 : Int32))] [(.int (1 : Int32)), (.ref a)])) _
        exact k
      -- pc 30: java/lang/StringLatin1.getChar
      obtain ⟨_, _, ⟨T7, L7, k7, n7⟩, -, X7, ⟨Lc7, hQ7, l7, y7, z7⟩, st7⟩ := Jvm.LawKit.callS X2 hx (y := (⟨"java/lang/StringLatin1", "getChar", "([BI)C"⟩ : MethodName)) hown (mvT hZ (hw _ (List.mem_of_getElem? (i := 103) rfl))) (mvT hZ (hw _ (List.mem_of_getElem? (i := 104) rfl))) (mvT hZ (hw _ (List.mem_of_getElem? (i := 70) rfl))) (mvT hZ (hw _ (List.mem_of_getElem? (i := 105) rfl))) (by decide) (backOf (W := 0) (rmGetC l Z a0 hw [] a ka cs (1) h0 n0 O Va hi.1 (by omega) hbB) hZ (hw _ (List.mem_of_getElem? (i := 105) rfl)) (hw _ (List.mem_of_getElem? (i := 70) rfl)) (by decide) (by decide)) (g := (mkF m 30 #[.val (.ref a), .val (.ref b), .val (.int (Int32.ofNat cs.length)), .val (.int (Int32.ofNat ds.length)), .val (.int b1), .val (.int (1 : Int32))] [(.int (1 : Int32)), (.ref a)])) rfl (by rw [hml]; rfl) (argsL := [(.ref a), (.int (1 : Int32))]) (rest := []) (lenOf pd_6 rfl) rfl (by show 2 * 0 + _ ≤ _; exact Nat.le_of_eq rfl) (hb hby d_jdk_43_method_15_30) (fun _ hWm => ⟨rfl, Kq2, (by decide : 0 + 0 ≤ _), (by decide : 0 + 0 ≤ _)⟩)
      dsimp only [Pt.U, Pt.locs, Pt.cells, Pt.slots] at X7 l7 y7 z7 st7 hQ7
      subst l7 y7 z7
      obtain ⟨rfl, Nq7, Kq7⟩ := hQ7
      replace N := Fr.app N Nq7
      refine own_go (B := T7.setTop (mkF m 33 #[.val (.ref a), .val (.ref b), .val (.int (Int32.ofNat cs.length)), .val (.int (Int32.ofNat ds.length)), .val (.int b1), .val (.int (1 : Int32))] [(.int (cs.getD 1 0))])) st7 ?_
      refine own_go (B := T7.setTop (mkF m 36 #[.val (.ref a), .val (.ref b), .val (.int (Int32.ofNat cs.length)), .val (.int (Int32.ofNat ds.length)), .val (.int b1), .val (.int (1 : Int32))] [(.int (1 : Int32)), (.ref b), (.int (cs.getD 1 0))])) (fun t k => ?_) ?_
      · show Steps p.tables e below (T7.setTop (mkF m 33 #[.val (.ref a), .val (.ref b), .val (.int (Int32.ofNat cs.length)), .val (.int (Int32.ofNat ds.length)), .val (.int b1), .val (.int (1 : Int32))] [(.int (cs.getD 1 0))])) _
        refine XS.aloadN X7.here hx rfl (hb hby d_jdk_43_method_15_33) rfl rfl ?_
        show Steps p.tables e below (T7.setTop (mkF m 34 #[.val (.ref a), .val (.ref b), .val (.int (Int32.ofNat cs.length)), .val (.int (Int32.ofNat ds.length)), .val (.int b1), .val (.int (1 : Int32))] [(.ref b), (.int (cs.getD 1 0))])) _
        refine XS.iload X7.here hx rfl (hb hby d_jdk_43_method_15_34) rfl ?_
        show Steps p.tables e below (T7.setTop (mkF m 36 #[.val (.ref a), .val (.ref b), .val (.int (Int32.ofNat cs.length)), .val (.int (Int32.ofNat ds.length)), .val (.int b1), .val (.int (1 : Int32))] [(.int (1 : Int32)), (.ref b), (.int (cs.getD 1 0))])) _
        exact k
      -- pc 36: java/lang/StringLatin1.getChar
      obtain ⟨_, _, ⟨T8, L8, k8, n8⟩, -, X8, ⟨Lc8, hQ8, l8, y8, z8⟩, st8⟩ := Jvm.LawKit.callS X7 hx (y := (⟨"java/lang/StringLatin1", "getChar", "([BI)C"⟩ : MethodName)) hown (mvT hZ (hw _ (List.mem_of_getElem? (i := 103) rfl))) (mvT hZ (hw _ (List.mem_of_getElem? (i := 104) rfl))) (mvT hZ (hw _ (List.mem_of_getElem? (i := 70) rfl))) (mvT hZ (hw _ (List.mem_of_getElem? (i := 105) rfl))) (by decide) (backOf (W := 1) (rmGetC l Z a0 hw [] b kb ds (1) h0 n0 O Vb hi.2 (by omega) hd) hZ (hw _ (List.mem_of_getElem? (i := 105) rfl)) (hw _ (List.mem_of_getElem? (i := 70) rfl)) (by decide) (by decide)) (g := (mkF m 36 #[.val (.ref a), .val (.ref b), .val (.int (Int32.ofNat cs.length)), .val (.int (Int32.ofNat ds.length)), .val (.int b1), .val (.int (1 : Int32))] [(.int (1 : Int32)), (.ref b), (.int (cs.getD 1 0))])) rfl (by rw [hml]; rfl) (argsL := [(.ref b), (.int (1 : Int32))]) (rest := [(.int (cs.getD 1 0))]) (lenOf pd_6 rfl) rfl (by show 2 * 0 + _ ≤ _; exact Nat.le_of_eq rfl) (hb hby d_jdk_43_method_15_36) (fun _ hWm => ⟨rfl, Kq7, (by decide : 0 + 0 ≤ _), (by decide : 0 + 0 ≤ _)⟩)
      dsimp only [Pt.U, Pt.locs, Pt.cells, Pt.slots] at X8 l8 y8 z8 st8 hQ8
      subst l8 y8 z8
      obtain ⟨rfl, Nq8, Kq8⟩ := hQ8
      replace N := Fr.app N Nq8
      refine own_go (B := T8.setTop (mkF m 39 #[.val (.ref a), .val (.ref b), .val (.int (Int32.ofNat cs.length)), .val (.int (Int32.ofNat ds.length)), .val (.int b1), .val (.int (1 : Int32))] [(.int (ds.getD 1 0)), (.int (cs.getD 1 0))])) st8 ?_
      refine own_go (B := T8.setTop (mkF m 40 #[.val (.ref a), .val (.ref b), .val (.int (Int32.ofNat cs.length)), .val (.int (Int32.ofNat ds.length)), .val (.int b1), .val (.int (1 : Int32))] [(.int ((cs.getD 1 0) - (ds.getD 1 0)))])) (fun t k => ?_) ?_
      · show Steps p.tables e below (T8.setTop (mkF m 39 #[.val (.ref a), .val (.ref b), .val (.int (Int32.ofNat cs.length)), .val (.int (Int32.ofNat ds.length)), .val (.int b1), .val (.int (1 : Int32))] [(.int (ds.getD 1 0)), (.int (cs.getD 1 0))])) _
        refine XS.isub X8.here hx rfl (hb hby d_jdk_43_method_15_39) rfl ?_
        show Steps p.tables e below (T8.setTop (mkF m 40 #[.val (.ref a), .val (.ref b), .val (.int (Int32.ofNat cs.length)), .val (.int (Int32.ofNat ds.length)), .val (.int b1), .val (.int (1 : Int32))] [(.int ((cs.getD 1 0) - (ds.getD 1 0)))])) _
        exact k
      obtain ⟨fs, hr, hrun, hended, hW, hsame⟩ := X8.leave (v := some (.int ((cs.getD 1 0) - (ds.getD 1 0)))) (fun h => by rw [Bd.returns] at h; cases h)
      refine ⟨_, _, retI X8 hx Bd.returns (hb hby d_jdk_43_method_15_40) hr, hfin _ _ ⟨hrun, hended, _, _, rfl, ?_, ⟨_, rfl⟩, hW, hsame.mono (by decide) (by decide)⟩⟩
      show QCmp4 Z a b ka kb cs ds h0 n0 _ T8.heap _
      exact ⟨((cs.getD 1 0) - (ds.getD 1 0)), rfl, N, Kq8, (own_cmpC hrr)⟩
def QCmp2 (Z : State) (a : Addr) (b : Addr) (ka : ClassId) (kb : ClassId) (cs : List Int32) (ds : List Int32) (h0 : Heap) (n0 : Nat) (v : Option Value) (h : Heap) (L : List Loc) : Prop := ∃ vv : Int32, v = some (.int vv) ∧ Fr n0 L ∧ h = h0 ∧ (vv = own_cmp cs ds)
theorem ef_Cmp2 (m : MethodId) (a : Addr) (b : Addr) : entryFrame m #[(.ref a), (.ref b)] 4 = mkF m 0 #[.val (.ref a), .val (.ref b), .unset, .unset] [] := by first | (simp [entryFrame, mkF, argsToLocals, Value.category]; done) | rfl | (rfl)
set_option maxRecDepth 65536 in
set_option maxHeartbeats 40000000 in
theorem rmCmp2 (l : Launch) (Z : State) (a0 : Array Value) (hw : ∀ d ∈ tables_1, d.before a0 Z = true) (ws : List Jvm.Cond) (a : Addr) (b : Addr) (ka : ClassId) (kb : ClassId) (cs : List Int32) (ds : List Int32) (h0 : Heap) (n0 : Nat) (O : Old Z n0 h0) (Va : Arv Z h0 a ka .byte (Int32.ofNat cs.length) (own_bs cs) (.int (0 : Int32))) (Vb : Arv Z h0 b kb .byte (Int32.ofNat ds.length) (own_bs ds) (.int (0 : Int32))) (hbB : ∀ c ∈ cs, ¬ c < 0 ∧ ¬ (255 : Int32) < c) (hd : ∀ c ∈ ds, ¬ c < 0 ∧ ¬ (255 : Int32) < c) (c2 : cs.length ≤ 2) (d2 : ds.length ≤ 2) :
    MetFree l (⟨"java/lang/StringLatin1", "compareTo", "([B[B)I"⟩ : MethodName) (head1 (Jvm.Cond.code (⟨"java/lang/StringLatin1", "compareTo", "([B[B)I"⟩ : MethodName) jdk_43_method_14_code 4 (some .int) :: ws) ({ frames := 2, cells := 0, slots := 0, locals := 32 } : Room)) (fun as_ U => as_ = #[(.ref a), (.ref b)] ∧ Z.Warmed39 U.vm ∧ U.heap = h0) (fun _ _ _ _ _ => True) (fun _ U oo_ U' => ∃ vv_ LL_, oo_ = .returned vv_ ∧ QCmp2 Z a b ka kb cs ds h0 n0 vv_ U'.heap LL_ ∧ FrameEnd U oo_ U' LL_ ({ frames := 2, cells := 0, slots := 0, locals := 32 } : Room).cells ({ frames := 2, cells := 0, slots := 0, locals := 32 } : Room).slots) := by
  refine MetFree.of_bodySF (plainFor_of_name pn_2) hisR ?_
  intro p e s m args below meth c s₁ Bd hml0 hP hK
  obtain ⟨rfl, hZ, hh⟩ := hP
  have hx := Bd.exec
  have hby := Bd.bytes
  have hml : c.maxLocals = 4 := hml0
  have hown : s.vm.findClass "java/lang/StringLatin1" = some m.cls := findClass_of_methodNamed Bd.named
  have hnm := (name_of_methodNamed Bd.named Bd.method).1
  have X0 : Stand p l e ({ frames := 2, cells := 0, slots := 0, locals := 32 } : Room) s m #[(.ref a), (.ref b)] below meth c s₁ [] 0 0 := Stand.of_body Bd
  have e0 : s₁.heap = h0 := by rw [← hh, Bd.state]; rfl
  have N := Fr.nil n0
  have K : Keep h0 h0 [] := Keep.refl h0 _
  refine own_go (B := s₁.setTop (mkF m 0 #[.val (.ref a), .val (.ref b), .unset, .unset] [])) (fun t k => castTop (ef_Cmp2 m a b) k) ?_
  refine own_abs (fun P hfin => ?_)
  refine own_go (B := s₁.setTop (mkF m 1 #[.val (.ref a), .val (.ref b), .unset, .unset] [(.ref a)])) (fun t k => ?_) ?_
  · show Steps p.tables e below (s₁.setTop (mkF m 0 #[.val (.ref a), .val (.ref b), .unset, .unset] [])) _
    refine XS.aloadN X0.here hx rfl (hb hby d_jdk_43_method_14_0) rfl rfl ?_
    show Steps p.tables e below (s₁.setTop (mkF m 1 #[.val (.ref a), .val (.ref b), .unset, .unset] [(.ref a)])) _
    exact k
  have st1 : ∀ target, Steps p.tables e below (s₁.setTop (mkF m 2 #[.val (.ref a), .val (.ref b), .unset, .unset] [(.int (Int32.ofNat cs.length))])) target → Steps p.tables e below (s₁.setTop (mkF m 1 #[.val (.ref a), .val (.ref b), .unset, .unset] [(.ref a)])) target := by
    obtain ⟨cl, Ar, q, Sz, Nn, Hs, Gt⟩ := Va
    intro target kt
    refine X0.arraylength hx (by rw [e0]; exact Ar.1) (State.isArrayOf_alike hZ.alike Ar.2.1) (g := (mkF m 1 #[.val (.ref a), .val (.ref b), .unset, .unset] [(.ref a)])) rfl rfl (hb hby d_jdk_43_method_14_1) _ ?_
    rw [len_of Sz Nn]
    exact kt
  refine own_go (B := s₁.setTop (mkF m 2 #[.val (.ref a), .val (.ref b), .unset, .unset] [(.int (Int32.ofNat cs.length))])) st1 ?_
  refine own_go (B := s₁.setTop (mkF m 4 #[.val (.ref a), .val (.ref b), .val (.int (Int32.ofNat cs.length)), .unset] [(.ref b)])) (fun t k => ?_) ?_
  · show Steps p.tables e below (s₁.setTop (mkF m 2 #[.val (.ref a), .val (.ref b), .unset, .unset] [(.int (Int32.ofNat cs.length))])) _
    refine XS.istoreN X0.here hx rfl (hb hby d_jdk_43_method_14_2) rfl (l' := #[.val (.ref a), .val (.ref b), .val (.int (Int32.ofNat cs.length)), .unset]) rfl ?_
    show Steps p.tables e below (s₁.setTop (mkF m 3 #[.val (.ref a), .val (.ref b), .val (.int (Int32.ofNat cs.length)), .unset] [])) _
    refine XS.aloadN X0.here hx rfl (hb hby d_jdk_43_method_14_3) rfl rfl ?_
    show Steps p.tables e below (s₁.setTop (mkF m 4 #[.val (.ref a), .val (.ref b), .val (.int (Int32.ofNat cs.length)), .unset] [(.ref b)])) _
    exact k
  have st2 : ∀ target, Steps p.tables e below (s₁.setTop (mkF m 5 #[.val (.ref a), .val (.ref b), .val (.int (Int32.ofNat cs.length)), .unset] [(.int (Int32.ofNat ds.length))])) target → Steps p.tables e below (s₁.setTop (mkF m 4 #[.val (.ref a), .val (.ref b), .val (.int (Int32.ofNat cs.length)), .unset] [(.ref b)])) target := by
    obtain ⟨cl, Ar, q, Sz, Nn, Hs, Gt⟩ := Vb
    intro target kt
    refine X0.arraylength hx (by rw [e0]; exact Ar.1) (State.isArrayOf_alike hZ.alike Ar.2.1) (g := (mkF m 4 #[.val (.ref a), .val (.ref b), .val (.int (Int32.ofNat cs.length)), .unset] [(.ref b)])) rfl rfl (hb hby d_jdk_43_method_14_4) _ ?_
    rw [len_of Sz Nn]
    exact kt
  refine own_go (B := s₁.setTop (mkF m 5 #[.val (.ref a), .val (.ref b), .val (.int (Int32.ofNat cs.length)), .unset] [(.int (Int32.ofNat ds.length))])) st2 ?_
  refine own_go (B := s₁.setTop (mkF m 10 #[.val (.ref a), .val (.ref b), .val (.int (Int32.ofNat cs.length)), .val (.int (Int32.ofNat ds.length))] [(.int (Int32.ofNat ds.length)), (.int (Int32.ofNat cs.length)), (.ref b), (.ref a)])) (fun t k => ?_) ?_
  · show Steps p.tables e below (s₁.setTop (mkF m 5 #[.val (.ref a), .val (.ref b), .val (.int (Int32.ofNat cs.length)), .unset] [(.int (Int32.ofNat ds.length))])) _
    refine XS.istoreN X0.here hx rfl (hb hby d_jdk_43_method_14_5) rfl (l' := #[.val (.ref a), .val (.ref b), .val (.int (Int32.ofNat cs.length)), .val (.int (Int32.ofNat ds.length))]) rfl ?_
    show Steps p.tables e below (s₁.setTop (mkF m 6 #[.val (.ref a), .val (.ref b), .val (.int (Int32.ofNat cs.length)), .val (.int (Int32.ofNat ds.length))] [])) _
    refine XS.aloadN X0.here hx rfl (hb hby d_jdk_43_method_14_6) rfl rfl ?_
    show Steps p.tables e below (s₁.setTop (mkF m 7 #[.val (.ref a), .val (.ref b), .val (.int (Int32.ofNat cs.length)), .val (.int (Int32.ofNat ds.length))] [(.ref a)])) _
    refine XS.aloadN X0.here hx rfl (hb hby d_jdk_43_method_14_7) rfl rfl ?_
    show Steps p.tables e below (s₁.setTop (mkF m 8 #[.val (.ref a), .val (.ref b), .val (.int (Int32.ofNat cs.length)), .val (.int (Int32.ofNat ds.length))] [(.ref b), (.ref a)])) _
    refine XS.iloadN X0.here hx rfl (hb hby d_jdk_43_method_14_8) rfl ?_
    show Steps p.tables e below (s₁.setTop (mkF m 9 #[.val (.ref a), .val (.ref b), .val (.int (Int32.ofNat cs.length)), .val (.int (Int32.ofNat ds.length))] [(.int (Int32.ofNat cs.length)), (.ref b), (.ref a)])) _
    refine XS.iloadN X0.here hx rfl (hb hby d_jdk_43_method_14_9) rfl ?_
    show Steps p.tables e below (s₁.setTop (mkF m 10 #[.val (.ref a), .val (.ref b), .val (.int (Int32.ofNat cs.length)), .val (.int (Int32.ofNat ds.length))] [(.int (Int32.ofNat ds.length)), (.int (Int32.ofNat cs.length)), (.ref b), (.ref a)])) _
    exact k
  -- pc 10: java/lang/StringLatin1.compareTo
  obtain ⟨_, _, ⟨T3, L3, k3, n3⟩, -, X3, ⟨Lc3, hQ3, l3, y3, z3⟩, st3⟩ := Jvm.LawKit.callS X0 hx (y := (⟨"java/lang/StringLatin1", "compareTo", "([B[BII)I"⟩ : MethodName)) hown (mvT hZ (hw _ (List.mem_of_getElem? (i := 92) rfl))) (mvT hZ (hw _ (List.mem_of_getElem? (i := 93) rfl))) (mvT hZ (hw _ (List.mem_of_getElem? (i := 70) rfl))) (mvT hZ (hw _ (List.mem_of_getElem? (i := 94) rfl))) (by decide) (backOf (W := 0) (rmCmp4 l Z a0 hw [] a b ka kb cs ds h0 n0 O Va Vb hbB hd c2 d2) hZ (hw _ (List.mem_of_getElem? (i := 94) rfl)) (hw _ (List.mem_of_getElem? (i := 70) rfl)) (by decide) (by decide)) (g := (mkF m 10 #[.val (.ref a), .val (.ref b), .val (.int (Int32.ofNat cs.length)), .val (.int (Int32.ofNat ds.length))] [(.int (Int32.ofNat ds.length)), (.int (Int32.ofNat cs.length)), (.ref b), (.ref a)])) rfl (by rw [hml]; rfl) (argsL := [(.ref a), (.ref b), (.int (Int32.ofNat cs.length)), (.int (Int32.ofNat ds.length))]) (rest := []) (lenOf pd_7 rfl) rfl (by show 2 * 0 + _ ≤ _; exact Nat.le_of_eq rfl) (hb hby d_jdk_43_method_14_10) (fun _ hWm => ⟨rfl, e0, (by decide : 0 + 0 ≤ _), (by decide : 0 + 0 ≤ _)⟩)
  dsimp only [Pt.U, Pt.locs, Pt.cells, Pt.slots] at X3 l3 y3 z3 st3 hQ3
  subst l3 y3 z3
  obtain ⟨vv3, rfl, Nq3, Kq3, cq3_0⟩ := hQ3
  replace N := Fr.app N Nq3
  refine own_go (B := T3.setTop (mkF m 13 #[.val (.ref a), .val (.ref b), .val (.int (Int32.ofNat cs.length)), .val (.int (Int32.ofNat ds.length))] [(.int vv3)])) st3 ?_
  obtain ⟨fs, hr, hrun, hended, hW, hsame⟩ := X3.leave (v := some (.int vv3)) (fun h => by rw [Bd.returns] at h; cases h)
  refine ⟨_, _, retI X3 hx Bd.returns (hb hby d_jdk_43_method_14_13) hr, hfin _ _ ⟨hrun, hended, _, _, rfl, ?_, ⟨_, rfl⟩, hW, hsame.mono (by decide) (by decide)⟩⟩
  show QCmp2 Z a b ka kb cs ds h0 n0 _ T3.heap _
  exact ⟨vv3, rfl, N, Kq3, cq3_0⟩
def QCod (Z : State) (a : Addr) (zc : Int32) (h0 : Heap) (n0 : Nat) (v : Option Value) (h : Heap) (L : List Loc) : Prop := v = some (.int (0 : Int32)) ∧ Fr n0 L ∧ h = h0
theorem ef_Cod (m : MethodId) (a : Addr) : entryFrame m #[(.ref a)] 1 = mkF m 0 #[.val (.ref a)] [] := by first | (simp [entryFrame, mkF, argsToLocals, Value.category]; done) | rfl | (rfl)
set_option maxRecDepth 65536 in
set_option maxHeartbeats 40000000 in
theorem rmCod (l : Launch) (Z : State) (a0 : Array Value) (hw : ∀ d ∈ tables_1, d.before a0 Z = true) (ws : List Jvm.Cond) (a : Addr) (zc : Int32) (h0 : Heap) (n0 : Nat) (O : Old Z n0 h0) (F : Fld Z h0 a "java/lang/String" "coder" "B" (.int (0 : Int32))) (S_C : Sta Z Z.heap "java/lang/String" "COMPACT_STRINGS" "Z" (.int zc)) (hcs : ¬ zc = (0 : Int32)) :
    MetFree l (⟨"java/lang/String", "coder", "()B"⟩ : MethodName) (head1 (Jvm.Cond.code (⟨"java/lang/String", "coder", "()B"⟩ : MethodName) jdk_42_method_152_code 1 (some .byte) :: ws) ({ frames := 0, cells := 0, slots := 0, locals := 0 } : Room)) (fun as_ U => as_ = #[(.ref a)] ∧ Z.Warmed39 U.vm ∧ U.heap = h0) (fun _ _ _ _ _ => True) (fun _ U oo_ U' => ∃ vv_ LL_, oo_ = .returned vv_ ∧ QCod Z a zc h0 n0 vv_ U'.heap LL_ ∧ FrameEnd U oo_ U' LL_ ({ frames := 0, cells := 0, slots := 0, locals := 0 } : Room).cells ({ frames := 0, cells := 0, slots := 0, locals := 0 } : Room).slots) := by
  refine MetFree.of_bodySF (plainFor_of_name pn_1) hisR ?_
  intro p e s m args below meth c s₁ Bd hml0 hP hK
  obtain ⟨rfl, hZ, hh⟩ := hP
  have hx := Bd.exec
  have hby := Bd.bytes
  have hml : c.maxLocals = 1 := hml0
  have hown : s.vm.findClass "java/lang/String" = some m.cls := findClass_of_methodNamed Bd.named
  have hnm := (name_of_methodNamed Bd.named Bd.method).1
  have X0 : Stand p l e ({ frames := 0, cells := 0, slots := 0, locals := 0 } : Room) s m #[(.ref a)] below meth c s₁ [] 0 0 := Stand.of_body Bd
  have e0 : s₁.heap = h0 := by rw [← hh, Bd.state]; rfl
  have N := Fr.nil n0
  have K : Keep h0 h0 [] := Keep.refl h0 _
  refine own_go (B := s₁.setTop (mkF m 0 #[.val (.ref a)] [])) (fun t k => castTop (ef_Cod m a) k) ?_
  refine own_abs (fun P hfin => ?_)
  obtain ⟨T1, X1, e1, st1⟩ := getS2 X0 hx hZ hown (host := "") (Or.inl (hw _ (List.mem_of_getElem? (i := 54) rfl))) Via.refl e0 (S_C.ext O.2) (g := (mkF m 0 #[.val (.ref a)] [])) rfl (hb hby d_jdk_42_method_152_0)
  refine own_go (B := T1.setTop (mkF m 3 #[.val (.ref a)] [(.int zc)])) st1 ?_
  refine own_go (B := T1.setTop (mkF m 7 #[.val (.ref a)] [(.ref a)])) (fun t k => ?_) ?_
  · show Steps p.tables e below (T1.setTop (mkF m 3 #[.val (.ref a)] [(.int zc)])) _
    refine XS.ifNo X1.here hx rfl (hb hby d_jdk_42_method_152_3) rfl ((if0 _ _).trans (feq hcs).1) ?_
    show Steps p.tables e below (T1.setTop (mkF m 6 #[.val (.ref a)] [])) _
    refine XS.aloadN X1.here hx rfl (hb hby d_jdk_42_method_152_6) rfl rfl ?_
    show Steps p.tables e below (T1.setTop (mkF m 7 #[.val (.ref a)] [(.ref a)])) _
    exact k
  obtain ⟨T2, X2, e2, st2⟩ := getF X1 hx hZ hown (host := "") (Or.inl (hw _ (List.mem_of_getElem? (i := 31) rfl))) Via.refl e1 F (g := (mkF m 7 #[.val (.ref a)] [(.ref a)])) rfl rfl (hb hby d_jdk_42_method_152_7)
  refine own_go (B := T2.setTop (mkF m 10 #[.val (.ref a)] [(.int (0 : Int32))])) st2 ?_
  refine own_go (B := T2.setTop (mkF m 14 #[.val (.ref a)] [(.int (0 : Int32))])) (fun t k => ?_) ?_
  · show Steps p.tables e below (T2.setTop (mkF m 10 #[.val (.ref a)] [(.int (0 : Int32))])) _
    refine XS.goto X2.here hx rfl (pc0 := 10) (pc' := 14) rfl (hb hby d_jdk_42_method_152_10) (by decide) (by decide) ?_
    show Steps p.tables e below (T2.setTop (mkF m 14 #[.val (.ref a)] [(.int (0 : Int32))])) _
    exact k
  obtain ⟨fs, hr, hrun, hended, hW, hsame⟩ := X2.leave (v := some (.int (0 : Int32))) (fun h => by rw [Bd.returns] at h; cases h)
  refine ⟨_, _, retN X2 hx (t := .byte) Bd.returns (by simp) (hb hby d_jdk_42_method_152_14) hr, hfin _ _ ⟨hrun, hended, _, _, rfl, ?_, ⟨_, rfl⟩, hW, hsame.mono (by decide) (by decide)⟩⟩
  show QCod Z a zc h0 n0 _ T2.heap _
  exact ⟨rfl, N, e2⟩
def QCmp (Z : State) (x : Addr) (y : Addr) (tx : Addr) (ty : Addr) (kx : ClassId) (ky : ClassId) (cs : List Int32) (ds : List Int32) (zc : Int32) (h0 : Heap) (n0 : Nat) (v : Option Value) (h : Heap) (L : List Loc) : Prop := ∃ vv : Int32, v = some (.int vv) ∧ Fr n0 L ∧ h = h0 ∧ (vv = own_cmp cs ds)
theorem ef_Cmp (m : MethodId) (x : Addr) (y : Addr) : entryFrame m #[(.ref x), (.ref y)] 5 = mkF m 0 #[.val (.ref x), .val (.ref y), .unset, .unset, .unset] [] := by first | (simp [entryFrame, mkF, argsToLocals, Value.category]; done) | rfl | (rfl)
set_option maxRecDepth 65536 in
set_option maxHeartbeats 40000000 in
theorem rmCmp (l : Launch) (Z : State) (a0 : Array Value) (hw : ∀ d ∈ tables_1, d.before a0 Z = true) (ws : List Jvm.Cond) (x : Addr) (y : Addr) (tx : Addr) (ty : Addr) (kx : ClassId) (ky : ClassId) (cs : List Int32) (ds : List Int32) (zc : Int32) (h0 : Heap) (n0 : Nat) (O : Old Z n0 h0) (x0 : Exa Z h0 x "java/lang/String") (x1 : Fld Z h0 x "java/lang/String" "coder" "B" (.int (0 : Int32))) (x2 : Fld Z h0 x "java/lang/String" "value" "[B" (.ref tx)) (x3 : Arv Z h0 tx kx .byte (Int32.ofNat cs.length) (own_bs cs) (.int (0 : Int32))) (y0 : Exa Z h0 y "java/lang/String") (y1 : Fld Z h0 y "java/lang/String" "coder" "B" (.int (0 : Int32))) (y2 : Fld Z h0 y "java/lang/String" "value" "[B" (.ref ty)) (y3 : Arv Z h0 ty ky .byte (Int32.ofNat ds.length) (own_bs ds) (.int (0 : Int32))) (S_C : Sta Z Z.heap "java/lang/String" "COMPACT_STRINGS" "Z" (.int zc)) (hcs : ¬ zc = (0 : Int32)) (hbB : ∀ c ∈ cs, ¬ c < 0 ∧ ¬ (255 : Int32) < c) (hd : ∀ c ∈ ds, ¬ c < 0 ∧ ¬ (255 : Int32) < c) (c2 : cs.length ≤ 2) (d2 : ds.length ≤ 2) :
    MetFree l (⟨"java/lang/String", "compareTo", "(Ljava/lang/String;)I"⟩ : MethodName) (head1 (Jvm.Cond.code (⟨"java/lang/String", "compareTo", "(Ljava/lang/String;)I"⟩ : MethodName) jdk_42_method_71_code 5 (some .int) :: ws) ({ frames := 3, cells := 0, slots := 0, locals := 47 } : Room)) (fun as_ U => as_ = #[(.ref x), (.ref y)] ∧ Z.Warmed39 U.vm ∧ U.heap = h0) (fun _ _ _ _ _ => True) (fun _ U oo_ U' => ∃ vv_ LL_, oo_ = .returned vv_ ∧ QCmp Z x y tx ty kx ky cs ds zc h0 n0 vv_ U'.heap LL_ ∧ FrameEnd U oo_ U' LL_ ({ frames := 3, cells := 0, slots := 0, locals := 47 } : Room).cells ({ frames := 3, cells := 0, slots := 0, locals := 47 } : Room).slots) := by
  refine MetFree.of_bodySF (plainFor_of_name pn_1) hisR ?_
  intro p e s m args below meth c s₁ Bd hml0 hP hK
  obtain ⟨rfl, hZ, hh⟩ := hP
  have hx := Bd.exec
  have hby := Bd.bytes
  have hml : c.maxLocals = 5 := hml0
  have hown : s.vm.findClass "java/lang/String" = some m.cls := findClass_of_methodNamed Bd.named
  have hnm := (name_of_methodNamed Bd.named Bd.method).1
  have X0 : Stand p l e ({ frames := 3, cells := 0, slots := 0, locals := 47 } : Room) s m #[(.ref x), (.ref y)] below meth c s₁ [] 0 0 := Stand.of_body Bd
  have e0 : s₁.heap = h0 := by rw [← hh, Bd.state]; rfl
  have N := Fr.nil n0
  have K : Keep h0 h0 [] := Keep.refl h0 _
  refine own_go (B := s₁.setTop (mkF m 0 #[.val (.ref x), .val (.ref y), .unset, .unset, .unset] [])) (fun t k => castTop (ef_Cmp m x y) k) ?_
  refine own_abs (fun P hfin => ?_)
  refine own_go (B := s₁.setTop (mkF m 1 #[.val (.ref x), .val (.ref y), .unset, .unset, .unset] [(.ref x)])) (fun t k => ?_) ?_
  · show Steps p.tables e below (s₁.setTop (mkF m 0 #[.val (.ref x), .val (.ref y), .unset, .unset, .unset] [])) _
    refine XS.aloadN X0.here hx rfl (hb hby d_jdk_42_method_71_0) rfl rfl ?_
    show Steps p.tables e below (s₁.setTop (mkF m 1 #[.val (.ref x), .val (.ref y), .unset, .unset, .unset] [(.ref x)])) _
    exact k
  obtain ⟨T1, X1, e1, st1⟩ := getF X0 hx hZ hown (host := "") (Or.inl (hw _ (List.mem_of_getElem? (i := 30) rfl))) Via.refl e0 x2 (g := (mkF m 1 #[.val (.ref x), .val (.ref y), .unset, .unset, .unset] [(.ref x)])) rfl rfl (hb hby d_jdk_42_method_71_1)
  refine own_go (B := T1.setTop (mkF m 4 #[.val (.ref x), .val (.ref y), .unset, .unset, .unset] [(.ref tx)])) st1 ?_
  refine own_go (B := T1.setTop (mkF m 6 #[.val (.ref x), .val (.ref y), .val (.ref tx), .unset, .unset] [(.ref y)])) (fun t k => ?_) ?_
  · show Steps p.tables e below (T1.setTop (mkF m 4 #[.val (.ref x), .val (.ref y), .unset, .unset, .unset] [(.ref tx)])) _
    refine XS.astoreN X1.here hx rfl (hb hby d_jdk_42_method_71_4) rfl rfl (l' := #[.val (.ref x), .val (.ref y), .val (.ref tx), .unset, .unset]) rfl ?_
    show Steps p.tables e below (T1.setTop (mkF m 5 #[.val (.ref x), .val (.ref y), .val (.ref tx), .unset, .unset] [])) _
    refine XS.aloadN X1.here hx rfl (hb hby d_jdk_42_method_71_5) rfl rfl ?_
    show Steps p.tables e below (T1.setTop (mkF m 6 #[.val (.ref x), .val (.ref y), .val (.ref tx), .unset, .unset] [(.ref y)])) _
    exact k
  obtain ⟨T2, X2, e2, st2⟩ := getF X1 hx hZ hown (host := "") (Or.inl (hw _ (List.mem_of_getElem? (i := 30) rfl))) Via.refl e1 y2 (g := (mkF m 6 #[.val (.ref x), .val (.ref y), .val (.ref tx), .unset, .unset] [(.ref y)])) rfl rfl (hb hby d_jdk_42_method_71_6)
  refine own_go (B := T2.setTop (mkF m 9 #[.val (.ref x), .val (.ref y), .val (.ref tx), .unset, .unset] [(.ref ty)])) st2 ?_
  refine own_go (B := T2.setTop (mkF m 11 #[.val (.ref x), .val (.ref y), .val (.ref tx), .val (.ref ty), .unset] [(.ref x)])) (fun t k => ?_) ?_
  · show Steps p.tables e below (T2.setTop (mkF m 9 #[.val (.ref x), .val (.ref y), .val (.ref tx), .unset, .unset] [(.ref ty)])) _
    refine XS.astoreN X2.here hx rfl (hb hby d_jdk_42_method_71_9) rfl rfl (l' := #[.val (.ref x), .val (.ref y), .val (.ref tx), .val (.ref ty), .unset]) rfl ?_
    show Steps p.tables e below (T2.setTop (mkF m 10 #[.val (.ref x), .val (.ref y), .val (.ref tx), .val (.ref ty), .unset] [])) _
    refine XS.aloadN X2.here hx rfl (hb hby d_jdk_42_method_71_10) rfl rfl ?_
    show Steps p.tables e below (T2.setTop (mkF m 11 #[.val (.ref x), .val (.ref y), .val (.ref tx), .val (.ref ty), .unset] [(.ref x)])) _
    exact k
  -- pc 11: java/lang/String.coder
  obtain ⟨cq3, kq3, q3a, q3b, q3c⟩ := isOf hZ e2 x0
  obtain ⟨_, _, ⟨T3, L3, k3, n3⟩, -, X3, ⟨Lc3, hQ3, l3, y3, z3⟩, st3⟩ := X2.virtualBack hx (y := (⟨"java/lang/String", "coder", "()B"⟩ : MethodName)) (z := (⟨"java/lang/String", "coder", "()B"⟩ : MethodName)) hown (mvT hZ (hw _ (List.mem_of_getElem? (i := 84) rfl))) (mvT hZ (hw _ (List.mem_of_getElem? (i := 85) rfl))) (notFace_of_selects (args := #[]) (mvT hZ (hw _ (List.mem_of_getElem? (i := 87) rfl)))) (mvT hZ (hw _ (List.mem_of_getElem? (i := 87) rfl))) (mvT hZ (hw _ (List.mem_of_getElem? (i := 86) rfl))) (by decide) (backOf (W := 0) (rmCod l Z a0 hw [] x zc h0 n0 O x1 S_C hcs) hZ (hw _ (List.mem_of_getElem? (i := 88) rfl)) (hw _ (List.mem_of_getElem? (i := 12) rfl)) (by decide) (by decide)) q3a q3c (g := (mkF m 11 #[.val (.ref x), .val (.ref y), .val (.ref tx), .val (.ref ty), .unset] [(.ref x)])) rfl (by rw [hml]; rfl) (Steps.refl _) (argsL := []) (rest := []) (lenOf pd_8 rfl) rfl (by show 2 * 0 + _ ≤ _; exact Nat.le_of_eq rfl) (hb hby d_jdk_42_method_71_11) (fun _ hWm => ⟨rfl, e2, (by decide : 0 + 0 ≤ _), (by decide : 0 + 0 ≤ _)⟩)
  dsimp only [Pt.U, Pt.locs, Pt.cells, Pt.slots] at X3 l3 y3 z3 st3 hQ3
  subst l3 y3 z3
  obtain ⟨rfl, Nq3, Kq3⟩ := hQ3
  replace N := Fr.app N Nq3
  refine own_go (B := T3.setTop (mkF m 14 #[.val (.ref x), .val (.ref y), .val (.ref tx), .val (.ref ty), .unset] [(.int (0 : Int32))])) (fun t k => st3.trans k) ?_
  refine own_go (B := T3.setTop (mkF m 19 #[.val (.ref x), .val (.ref y), .val (.ref tx), .val (.ref ty), .val (.int (0 : Int32))] [(.ref y), (.int (0 : Int32))])) (fun t k => ?_) ?_
  · show Steps p.tables e below (T3.setTop (mkF m 14 #[.val (.ref x), .val (.ref y), .val (.ref tx), .val (.ref ty), .unset] [(.int (0 : Int32))])) _
    refine XS.istore X3.here hx rfl (hb hby d_jdk_42_method_71_14) rfl (l' := #[.val (.ref x), .val (.ref y), .val (.ref tx), .val (.ref ty), .val (.int (0 : Int32))]) rfl ?_
    show Steps p.tables e below (T3.setTop (mkF m 16 #[.val (.ref x), .val (.ref y), .val (.ref tx), .val (.ref ty), .val (.int (0 : Int32))] [])) _
    refine XS.iload X3.here hx rfl (hb hby d_jdk_42_method_71_16) rfl ?_
    show Steps p.tables e below (T3.setTop (mkF m 18 #[.val (.ref x), .val (.ref y), .val (.ref tx), .val (.ref ty), .val (.int (0 : Int32))] [(.int (0 : Int32))])) _
    refine XS.aloadN X3.here hx rfl (hb hby d_jdk_42_method_71_18) rfl rfl ?_
    show Steps p.tables e below (T3.setTop (mkF m 19 #[.val (.ref x), .val (.ref y), .val (.ref tx), .val (.ref ty), .val (.int (0 : Int32))] [(.ref y), (.int (0 : Int32))])) _
    exact k
  -- pc 19: java/lang/String.coder
  obtain ⟨cq4, kq4, q4a, q4b, q4c⟩ := isOf hZ Kq3 y0
  obtain ⟨_, _, ⟨T4, L4, k4, n4⟩, -, X4, ⟨Lc4, hQ4, l4, y4, z4⟩, st4⟩ := X3.virtualBack hx (y := (⟨"java/lang/String", "coder", "()B"⟩ : MethodName)) (z := (⟨"java/lang/String", "coder", "()B"⟩ : MethodName)) hown (mvT hZ (hw _ (List.mem_of_getElem? (i := 84) rfl))) (mvT hZ (hw _ (List.mem_of_getElem? (i := 85) rfl))) (notFace_of_selects (args := #[]) (mvT hZ (hw _ (List.mem_of_getElem? (i := 87) rfl)))) (mvT hZ (hw _ (List.mem_of_getElem? (i := 87) rfl))) (mvT hZ (hw _ (List.mem_of_getElem? (i := 86) rfl))) (by decide) (backOf (W := 1) (rmCod l Z a0 hw [] y zc h0 n0 O y1 S_C hcs) hZ (hw _ (List.mem_of_getElem? (i := 88) rfl)) (hw _ (List.mem_of_getElem? (i := 12) rfl)) (by decide) (by decide)) q4a q4c (g := (mkF m 19 #[.val (.ref x), .val (.ref y), .val (.ref tx), .val (.ref ty), .val (.int (0 : Int32))] [(.ref y), (.int (0 : Int32))])) rfl (by rw [hml]; rfl) (Steps.refl _) (argsL := []) (rest := [(.int (0 : Int32))]) (lenOf pd_8 rfl) rfl (by show 2 * 0 + _ ≤ _; exact Nat.le_of_eq rfl) (hb hby d_jdk_42_method_71_19) (fun _ hWm => ⟨rfl, Kq3, (by decide : 0 + 0 ≤ _), (by decide : 0 + 0 ≤ _)⟩)
  dsimp only [Pt.U, Pt.locs, Pt.cells, Pt.slots] at X4 l4 y4 z4 st4 hQ4
  subst l4 y4 z4
  obtain ⟨rfl, Nq4, Kq4⟩ := hQ4
  replace N := Fr.app N Nq4
  refine own_go (B := T4.setTop (mkF m 22 #[.val (.ref x), .val (.ref y), .val (.ref tx), .val (.ref ty), .val (.int (0 : Int32))] [(.int (0 : Int32)), (.int (0 : Int32))])) (fun t k => st4.trans k) ?_
  refine own_go (B := T4.setTop (mkF m 32 #[.val (.ref x), .val (.ref y), .val (.ref tx), .val (.ref ty), .val (.int (0 : Int32))] [(.ref ty), (.ref tx)])) (fun t k => ?_) ?_
  · show Steps p.tables e below (T4.setTop (mkF m 22 #[.val (.ref x), .val (.ref y), .val (.ref tx), .val (.ref ty), .val (.int (0 : Int32))] [(.int (0 : Int32)), (.int (0 : Int32))])) _
    refine XS.icmpNo X4.here hx rfl (hb hby d_jdk_42_method_71_22) rfl (teq rfl).2 ?_
    show Steps p.tables e below (T4.setTop (mkF m 25 #[.val (.ref x), .val (.ref y), .val (.ref tx), .val (.ref ty), .val (.int (0 : Int32))] [])) _
    refine XS.iload X4.here hx rfl (hb hby d_jdk_42_method_71_25) rfl ?_
    show Steps p.tables e below (T4.setTop (mkF m 27 #[.val (.ref x), .val (.ref y), .val (.ref tx), .val (.ref ty), .val (.int (0 : Int32))] [(.int (0 : Int32))])) _
    refine XS.ifNo X4.here hx rfl (hb hby d_jdk_42_method_71_27) rfl ((if0 _ _).trans (teq (by decide)).2) ?_
    show Steps p.tables e below (T4.setTop (mkF m 30 #[.val (.ref x), .val (.ref y), .val (.ref tx), .val (.ref ty), .val (.int (0 : Int32))] [])) _
    refine XS.aloadN X4.here hx rfl (hb hby d_jdk_42_method_71_30) rfl rfl ?_
    show Steps p.tables e below (T4.setTop (mkF m 31 #[.val (.ref x), .val (.ref y), .val (.ref tx), .val (.ref ty), .val (.int (0 : Int32))] [(.ref tx)])) _
    refine XS.aloadN X4.here hx rfl (hb hby d_jdk_42_method_71_31) rfl rfl ?_
    show Steps p.tables e below (T4.setTop (mkF m 32 #[.val (.ref x), .val (.ref y), .val (.ref tx), .val (.ref ty), .val (.int (0 : Int32))] [(.ref ty), (.ref tx)])) _
    exact k
  -- pc 32: java/lang/StringLatin1.compareTo
  obtain ⟨_, _, ⟨T5, L5, k5, n5⟩, -, X5, ⟨Lc5, hQ5, l5, y5, z5⟩, st5⟩ := Jvm.LawKit.callS X4 hx (y := (⟨"java/lang/StringLatin1", "compareTo", "([B[B)I"⟩ : MethodName)) hown (mvT hZ (hw _ (List.mem_of_getElem? (i := 89) rfl))) (mvT hZ (hw _ (List.mem_of_getElem? (i := 90) rfl))) (mvT hZ (hw _ (List.mem_of_getElem? (i := 70) rfl))) (mvT hZ (hw _ (List.mem_of_getElem? (i := 91) rfl))) (by decide) (backOf (W := 0) (rmCmp2 l Z a0 hw [] tx ty kx ky cs ds h0 n0 O x3 y3 hbB hd c2 d2) hZ (hw _ (List.mem_of_getElem? (i := 91) rfl)) (hw _ (List.mem_of_getElem? (i := 70) rfl)) (by decide) (by decide)) (g := (mkF m 32 #[.val (.ref x), .val (.ref y), .val (.ref tx), .val (.ref ty), .val (.int (0 : Int32))] [(.ref ty), (.ref tx)])) rfl (by rw [hml]; rfl) (argsL := [(.ref tx), (.ref ty)]) (rest := []) (lenOf pd_9 rfl) rfl (by show 2 * 0 + _ ≤ _; exact Nat.le_of_eq rfl) (hb hby d_jdk_42_method_71_32) (fun _ hWm => ⟨rfl, Kq4, (by decide : 0 + 0 ≤ _), (by decide : 0 + 0 ≤ _)⟩)
  dsimp only [Pt.U, Pt.locs, Pt.cells, Pt.slots] at X5 l5 y5 z5 st5 hQ5
  subst l5 y5 z5
  obtain ⟨vv5, rfl, Nq5, Kq5, cq5_0⟩ := hQ5
  replace N := Fr.app N Nq5
  refine own_go (B := T5.setTop (mkF m 35 #[.val (.ref x), .val (.ref y), .val (.ref tx), .val (.ref ty), .val (.int (0 : Int32))] [(.int vv5)])) st5 ?_
  refine own_go (B := T5.setTop (mkF m 43 #[.val (.ref x), .val (.ref y), .val (.ref tx), .val (.ref ty), .val (.int (0 : Int32))] [(.int vv5)])) (fun t k => ?_) ?_
  · show Steps p.tables e below (T5.setTop (mkF m 35 #[.val (.ref x), .val (.ref y), .val (.ref tx), .val (.ref ty), .val (.int (0 : Int32))] [(.int vv5)])) _
    refine XS.goto X5.here hx rfl (pc0 := 35) (pc' := 43) rfl (hb hby d_jdk_42_method_71_35) (by decide) (by decide) ?_
    show Steps p.tables e below (T5.setTop (mkF m 43 #[.val (.ref x), .val (.ref y), .val (.ref tx), .val (.ref ty), .val (.int (0 : Int32))] [(.int vv5)])) _
    exact k
  obtain ⟨fs, hr, hrun, hended, hW, hsame⟩ := X5.leave (v := some (.int vv5)) (fun h => by rw [Bd.returns] at h; cases h)
  refine ⟨_, _, retI X5 hx Bd.returns (hb hby d_jdk_42_method_71_43) hr, hfin _ _ ⟨hrun, hended, _, _, rfl, ?_, ⟨_, rfl⟩, hW, hsame.mono (by decide) (by decide)⟩⟩
  show QCmp Z x y tx ty kx ky cs ds zc h0 n0 _ T5.heap _
  exact ⟨vv5, rfl, N, Kq5, cq5_0⟩
def QAhead (Z : State) (a : Addr) (b : Addr) (sq1 : Int64) (sq2 : Int64) (x : Addr) (y : Addr) (tx : Addr) (ty : Addr) (kx : ClassId) (ky : ClassId) (cs : List Int32) (ds : List Int32) (zc : Int32) (h0 : Heap) (n0 : Nat) (v : Option Value) (h : Heap) (L : List Loc) : Prop := ∃ vv : Int32, v = some (.int vv) ∧ Fr n0 L ∧ h = h0 ∧ (own_ahead sq1 sq2 cs ds → vv = (1 : Int32)) ∧ (¬ own_ahead sq1 sq2 cs ds → vv = (0 : Int32))
theorem ef_Ahead (m : MethodId) (a : Addr) (b : Addr) : entryFrame m #[(.ref a), (.ref b)] 2 = mkF m 0 #[.val (.ref a), .val (.ref b)] [] := by first | (simp [entryFrame, mkF, argsToLocals, Value.category]; done) | rfl | (rfl)
set_option maxRecDepth 65536 in
set_option maxHeartbeats 40000000 in
theorem rmAhead (l : Launch) (Z : State) (a0 : Array Value) (hw : ∀ d ∈ tables_1, d.before a0 Z = true) (ws : List Jvm.Cond) (a : Addr) (b : Addr) (sq1 : Int64) (sq2 : Int64) (x : Addr) (y : Addr) (tx : Addr) (ty : Addr) (kx : ClassId) (ky : ClassId) (cs : List Int32) (ds : List Int32) (zc : Int32) (h0 : Heap) (n0 : Nat) (O : Old Z n0 h0) (fa0 : Fld Z h0 a "com/example/lockline/lockline/Contender" "name" "Ljava/lang/String;" (.ref x)) (fa1 : Fld Z h0 a "com/example/lockline/lockline/Contender" "sequence" "J" (.long sq1)) (fb0 : Fld Z h0 b "com/example/lockline/lockline/Contender" "name" "Ljava/lang/String;" (.ref y)) (fb1 : Fld Z h0 b "com/example/lockline/lockline/Contender" "sequence" "J" (.long sq2)) (x0 : Exa Z h0 x "java/lang/String") (x1 : Fld Z h0 x "java/lang/String" "coder" "B" (.int (0 : Int32))) (x2 : Fld Z h0 x "java/lang/String" "value" "[B" (.ref tx)) (x3 : Arv Z h0 tx kx .byte (Int32.ofNat cs.length) (own_bs cs) (.int (0 : Int32))) (y0 : Exa Z h0 y "java/lang/String") (y1 : Fld Z h0 y "java/lang/String" "coder" "B" (.int (0 : Int32))) (y2 : Fld Z h0 y "java/lang/String" "value" "[B" (.ref ty)) (y3 : Arv Z h0 ty ky .byte (Int32.ofNat ds.length) (own_bs ds) (.int (0 : Int32))) (S_C : Sta Z Z.heap "java/lang/String" "COMPACT_STRINGS" "Z" (.int zc)) (hcs : ¬ zc = (0 : Int32)) (hbB : ∀ c ∈ cs, ¬ c < 0 ∧ ¬ (255 : Int32) < c) (hd : ∀ c ∈ ds, ¬ c < 0 ∧ ¬ (255 : Int32) < c) (c2 : cs.length ≤ 2) (d2 : ds.length ≤ 2) :
    MetFree l (⟨"com/example/lockline/lockline/Contender", "isAheadOf", "(Lcom/example/lockline/lockline/Contender;)Z"⟩ : MethodName) (head1 (Jvm.Cond.code (⟨"com/example/lockline/lockline/Contender", "isAheadOf", "(Lcom/example/lockline/lockline/Contender;)Z"⟩ : MethodName) prog_1_method_4_code 2 (some .boolean) :: ws) ({ frames := 4, cells := 0, slots := 0, locals := 63 } : Room)) (fun as_ U => as_ = #[(.ref a), (.ref b)] ∧ Z.Warmed39 U.vm ∧ U.heap = h0) (fun _ _ _ _ _ => True) (fun _ U oo_ U' => ∃ vv_ LL_, oo_ = .returned vv_ ∧ QAhead Z a b sq1 sq2 x y tx ty kx ky cs ds zc h0 n0 vv_ U'.heap LL_ ∧ FrameEnd U oo_ U' LL_ ({ frames := 4, cells := 0, slots := 0, locals := 63 } : Room).cells ({ frames := 4, cells := 0, slots := 0, locals := 63 } : Room).slots) := by
  refine MetFree.of_bodySF (plainFor_of_name pn_4) hisR ?_
  intro p e s m args below meth c s₁ Bd hml0 hP hK
  obtain ⟨rfl, hZ, hh⟩ := hP
  have hx := Bd.exec
  have hby := Bd.bytes
  have hml : c.maxLocals = 2 := hml0
  have hown : s.vm.findClass "com/example/lockline/lockline/Contender" = some m.cls := findClass_of_methodNamed Bd.named
  have hnm := (name_of_methodNamed Bd.named Bd.method).1
  have X0 : Stand p l e ({ frames := 4, cells := 0, slots := 0, locals := 63 } : Room) s m #[(.ref a), (.ref b)] below meth c s₁ [] 0 0 := Stand.of_body Bd
  have e0 : s₁.heap = h0 := by rw [← hh, Bd.state]; rfl
  have N := Fr.nil n0
  have K : Keep h0 h0 [] := Keep.refl h0 _
  refine own_go (B := s₁.setTop (mkF m 0 #[.val (.ref a), .val (.ref b)] [])) (fun t k => castTop (ef_Ahead m a b) k) ?_
  refine own_abs (fun P hfin => ?_)
  refine own_go (B := s₁.setTop (mkF m 1 #[.val (.ref a), .val (.ref b)] [(.ref a)])) (fun t k => ?_) ?_
  · show Steps p.tables e below (s₁.setTop (mkF m 0 #[.val (.ref a), .val (.ref b)] [])) _
    refine XS.aloadN X0.here hx rfl (hb hby d_prog_1_method_4_0) rfl rfl ?_
    show Steps p.tables e below (s₁.setTop (mkF m 1 #[.val (.ref a), .val (.ref b)] [(.ref a)])) _
    exact k
  obtain ⟨T1, X1, e1, st1⟩ := getF X0 hx hZ hown (host := "") (Or.inl (hw _ (List.mem_of_getElem? (i := 45) rfl))) Via.refl e0 fa1 (g := (mkF m 1 #[.val (.ref a), .val (.ref b)] [(.ref a)])) rfl rfl (hb hby d_prog_1_method_4_1)
  refine own_go (B := T1.setTop (mkF m 4 #[.val (.ref a), .val (.ref b)] [(.long sq1)])) st1 ?_
  refine own_go (B := T1.setTop (mkF m 5 #[.val (.ref a), .val (.ref b)] [(.ref b), (.long sq1)])) (fun t k => ?_) ?_
  · show Steps p.tables e below (T1.setTop (mkF m 4 #[.val (.ref a), .val (.ref b)] [(.long sq1)])) _
    refine XS.aloadN X1.here hx rfl (hb hby d_prog_1_method_4_4) rfl rfl ?_
    show Steps p.tables e below (T1.setTop (mkF m 5 #[.val (.ref a), .val (.ref b)] [(.ref b), (.long sq1)])) _
    exact k
  obtain ⟨T2, X2, e2, st2⟩ := getF X1 hx hZ hown (host := "") (Or.inl (hw _ (List.mem_of_getElem? (i := 45) rfl))) Via.refl e1 fb1 (g := (mkF m 5 #[.val (.ref a), .val (.ref b)] [(.ref b), (.long sq1)])) rfl rfl (hb hby d_prog_1_method_4_5)
  refine own_go (B := T2.setTop (mkF m 8 #[.val (.ref a), .val (.ref b)] [(.long sq2), (.long sq1)])) st2 ?_
  refine own_go (B := T2.setTop (mkF m 9 #[.val (.ref a), .val (.ref b)] [(.int (lcmpW sq1 sq2))])) (fun t k => ?_) ?_
  · show Steps p.tables e below (T2.setTop (mkF m 8 #[.val (.ref a), .val (.ref b)] [(.long sq2), (.long sq1)])) _
    refine XS.lcmp X2.here hx rfl (hb hby d_prog_1_method_4_8) rfl ?_
    show Steps p.tables e below (T2.setTop (mkF m 9 #[.val (.ref a), .val (.ref b)] [(.int (lcmpW sq1 sq2))])) _
    exact k
  by_cases s9 : sq1 = sq2
  · refine own_go (B := T2.setTop (mkF m 31 #[.val (.ref a), .val (.ref b)] [(.ref a)])) (fun t k => ?_) ?_
    · show Steps p.tables e below (T2.setTop (mkF m 9 #[.val (.ref a), .val (.ref b)] [(.int (lcmpW sq1 sq2))])) _
      refine XS.ifYes X2.here hx rfl (pc0 := 9) (pc' := 30) rfl (hb hby d_prog_1_method_4_9) rfl (XT.ll_eq_t s9) (by decide) (by decide) ?_
      show Steps p.tables e below (T2.setTop (mkF m 30 #[.val (.ref a), .val (.ref b)] [])) _
      refine XS.aloadN X2.here hx rfl (hb hby d_prog_1_method_4_30) rfl rfl ?_
      show Steps p.tables e below (T2.setTop (mkF m 31 #[.val (.ref a), .val (.ref b)] [(.ref a)])) _
      exact k
    obtain ⟨T3, X3, e3, st3⟩ := getF X2 hx hZ hown (host := "") (Or.inl (hw _ (List.mem_of_getElem? (i := 41) rfl))) Via.refl e2 fa0 (g := (mkF m 31 #[.val (.ref a), .val (.ref b)] [(.ref a)])) rfl rfl (hb hby d_prog_1_method_4_31)
    refine own_go (B := T3.setTop (mkF m 34 #[.val (.ref a), .val (.ref b)] [(.ref x)])) st3 ?_
    refine own_go (B := T3.setTop (mkF m 35 #[.val (.ref a), .val (.ref b)] [(.ref b), (.ref x)])) (fun t k => ?_) ?_
    · show Steps p.tables e below (T3.setTop (mkF m 34 #[.val (.ref a), .val (.ref b)] [(.ref x)])) _
      refine XS.aloadN X3.here hx rfl (hb hby d_prog_1_method_4_34) rfl rfl ?_
      show Steps p.tables e below (T3.setTop (mkF m 35 #[.val (.ref a), .val (.ref b)] [(.ref b), (.ref x)])) _
      exact k
    obtain ⟨T4, X4, e4, st4⟩ := getF X3 hx hZ hown (host := "") (Or.inl (hw _ (List.mem_of_getElem? (i := 41) rfl))) Via.refl e3 fb0 (g := (mkF m 35 #[.val (.ref a), .val (.ref b)] [(.ref b), (.ref x)])) rfl rfl (hb hby d_prog_1_method_4_35)
    refine own_go (B := T4.setTop (mkF m 38 #[.val (.ref a), .val (.ref b)] [(.ref y), (.ref x)])) st4 ?_
    -- pc 38: java/lang/String.compareTo
    obtain ⟨cq5, kq5, q5a, q5b, q5c⟩ := isOf hZ e4 x0
    obtain ⟨_, _, ⟨T5, L5, k5, n5⟩, -, X5, ⟨Lc5, hQ5, l5, y5, z5⟩, st5⟩ := X4.virtualBack hx (y := (⟨"java/lang/String", "compareTo", "(Ljava/lang/String;)I"⟩ : MethodName)) (z := (⟨"java/lang/String", "compareTo", "(Ljava/lang/String;)I"⟩ : MethodName)) hown (mvT hZ (hw _ (List.mem_of_getElem? (i := 79) rfl))) (mvT hZ (hw _ (List.mem_of_getElem? (i := 80) rfl))) (notFace_of_selects (args := #[]) (mvT hZ (hw _ (List.mem_of_getElem? (i := 82) rfl)))) (mvT hZ (hw _ (List.mem_of_getElem? (i := 82) rfl))) (mvT hZ (hw _ (List.mem_of_getElem? (i := 81) rfl))) (by decide) (backOf (W := 0) (rmCmp l Z a0 hw [] x y tx ty kx ky cs ds zc h0 n0 O x0 x1 x2 x3 y0 y1 y2 y3 S_C hcs hbB hd c2 d2) hZ (hw _ (List.mem_of_getElem? (i := 83) rfl)) (hw _ (List.mem_of_getElem? (i := 12) rfl)) (by decide) (by decide)) q5a q5c (g := (mkF m 38 #[.val (.ref a), .val (.ref b)] [(.ref y), (.ref x)])) rfl (by rw [hml]; rfl) (Steps.refl _) (argsL := [(.ref y)]) (rest := []) (lenOf pd_10 rfl) rfl (by show 2 * 0 + _ ≤ _; exact Nat.le_of_eq rfl) (hb hby d_prog_1_method_4_38) (fun _ hWm => ⟨rfl, e4, (by decide : 0 + 0 ≤ _), (by decide : 0 + 0 ≤ _)⟩)
    dsimp only [Pt.U, Pt.locs, Pt.cells, Pt.slots] at X5 l5 y5 z5 st5 hQ5
    subst l5 y5 z5
    obtain ⟨vv5, rfl, Nq5, Kq5, cq5_0⟩ := hQ5
    replace N := Fr.app N Nq5
    refine own_go (B := T5.setTop (mkF m 41 #[.val (.ref a), .val (.ref b)] [(.int vv5)])) (fun t k => st5.trans k) ?_
    have hv := cq5_0
    by_cases s41 : own_cmp cs ds < (0 : Int32)
    · refine own_go (B := T5.setTop (mkF m 49 #[.val (.ref a), .val (.ref b)] [(.int (1 : Int32))])) (fun t k => ?_) ?_
      · show Steps p.tables e below (T5.setTop (mkF m 41 #[.val (.ref a), .val (.ref b)] [(.int vv5)])) _
        refine XS.ifNo X5.here hx rfl (hb hby d_prog_1_method_4_41) rfl ((if0 _ _).trans (tlt (by rw [hv]; exact s41)).2.1) ?_
        show Steps p.tables e below (T5.setTop (mkF m 44 #[.val (.ref a), .val (.ref b)] [])) _
        refine XS.iconst X5.here hx rfl (hb hby d_prog_1_method_4_44) ?_
        show Steps p.tables e below (T5.setTop (mkF m 45 #[.val (.ref a), .val (.ref b)] [(.int (1 : Int32))])) _
        refine XS.goto X5.here hx rfl (pc0 := 45) (pc' := 49) rfl (hb hby d_prog_1_method_4_45) (by decide) (by decide) ?_
        show Steps p.tables e below (T5.setTop (mkF m 49 #[.val (.ref a), .val (.ref b)] [(.int (1 : Int32))])) _
        exact k
      obtain ⟨fs, hr, hrun, hended, hW, hsame⟩ := X5.leave (v := some (.int (1 : Int32))) (fun h => by rw [Bd.returns] at h; cases h)
      refine ⟨_, _, retN X5 hx (t := .boolean) Bd.returns (by simp) (hb hby d_prog_1_method_4_49) hr, hfin _ _ ⟨hrun, hended, _, _, rfl, ?_, ⟨_, rfl⟩, hW, hsame.mono (by decide) (by decide)⟩⟩
      show QAhead Z a b sq1 sq2 x y tx ty kx ky cs ds zc h0 n0 _ T5.heap _
      exact ⟨(1 : Int32), rfl, N, Kq5, (fun _ => rfl), (fun qq_ => absurd (show _ from (Or.inr ⟨s9, s41⟩)) qq_)⟩
    · refine own_go (B := T5.setTop (mkF m 49 #[.val (.ref a), .val (.ref b)] [(.int (0 : Int32))])) (fun t k => ?_) ?_
      · show Steps p.tables e below (T5.setTop (mkF m 41 #[.val (.ref a), .val (.ref b)] [(.int vv5)])) _
        refine XS.ifYes X5.here hx rfl (pc0 := 41) (pc' := 48) rfl (hb hby d_prog_1_method_4_41) rfl ((if0 _ _).trans (flt (by rw [hv]; exact s41)).2.1) (by decide) (by decide) ?_
        show Steps p.tables e below (T5.setTop (mkF m 48 #[.val (.ref a), .val (.ref b)] [])) _
        refine XS.iconst X5.here hx rfl (hb hby d_prog_1_method_4_48) ?_
        show Steps p.tables e below (T5.setTop (mkF m 49 #[.val (.ref a), .val (.ref b)] [(.int (0 : Int32))])) _
        exact k
      obtain ⟨fs, hr, hrun, hended, hW, hsame⟩ := X5.leave (v := some (.int (0 : Int32))) (fun h => by rw [Bd.returns] at h; cases h)
      refine ⟨_, _, retN X5 hx (t := .boolean) Bd.returns (by simp) (hb hby d_prog_1_method_4_49) hr, hfin _ _ ⟨hrun, hended, _, _, rfl, ?_, ⟨_, rfl⟩, hW, hsame.mono (by decide) (by decide)⟩⟩
      show QAhead Z a b sq1 sq2 x y tx ty kx ky cs ds zc h0 n0 _ T5.heap _
      exact ⟨(0 : Int32), rfl, N, Kq5, (fun qq_ => absurd qq_ (fun z0 => z0.elim (fun z1 => (fun z2 => z2 s9) z1.1) (fun z1 => s41 z1.2))), (fun _ => rfl)⟩
  · refine own_go (B := T2.setTop (mkF m 13 #[.val (.ref a), .val (.ref b)] [(.ref a)])) (fun t k => ?_) ?_
    · show Steps p.tables e below (T2.setTop (mkF m 9 #[.val (.ref a), .val (.ref b)] [(.int (lcmpW sq1 sq2))])) _
      refine XS.ifNo X2.here hx rfl (hb hby d_prog_1_method_4_9) rfl (XT.ll_eq_f s9) ?_
      show Steps p.tables e below (T2.setTop (mkF m 12 #[.val (.ref a), .val (.ref b)] [])) _
      refine XS.aloadN X2.here hx rfl (hb hby d_prog_1_method_4_12) rfl rfl ?_
      show Steps p.tables e below (T2.setTop (mkF m 13 #[.val (.ref a), .val (.ref b)] [(.ref a)])) _
      exact k
    obtain ⟨T8, X8, e8, st8⟩ := getF X2 hx hZ hown (host := "") (Or.inl (hw _ (List.mem_of_getElem? (i := 45) rfl))) Via.refl e2 fa1 (g := (mkF m 13 #[.val (.ref a), .val (.ref b)] [(.ref a)])) rfl rfl (hb hby d_prog_1_method_4_13)
    refine own_go (B := T8.setTop (mkF m 16 #[.val (.ref a), .val (.ref b)] [(.long sq1)])) st8 ?_
    refine own_go (B := T8.setTop (mkF m 17 #[.val (.ref a), .val (.ref b)] [(.ref b), (.long sq1)])) (fun t k => ?_) ?_
    · show Steps p.tables e below (T8.setTop (mkF m 16 #[.val (.ref a), .val (.ref b)] [(.long sq1)])) _
      refine XS.aloadN X8.here hx rfl (hb hby d_prog_1_method_4_16) rfl rfl ?_
      show Steps p.tables e below (T8.setTop (mkF m 17 #[.val (.ref a), .val (.ref b)] [(.ref b), (.long sq1)])) _
      exact k
    obtain ⟨T9, X9, e9, st9⟩ := getF X8 hx hZ hown (host := "") (Or.inl (hw _ (List.mem_of_getElem? (i := 45) rfl))) Via.refl e8 fb1 (g := (mkF m 17 #[.val (.ref a), .val (.ref b)] [(.ref b), (.long sq1)])) rfl rfl (hb hby d_prog_1_method_4_17)
    refine own_go (B := T9.setTop (mkF m 20 #[.val (.ref a), .val (.ref b)] [(.long sq2), (.long sq1)])) st9 ?_
    refine own_go (B := T9.setTop (mkF m 21 #[.val (.ref a), .val (.ref b)] [(.int (lcmpW sq1 sq2))])) (fun t k => ?_) ?_
    · show Steps p.tables e below (T9.setTop (mkF m 20 #[.val (.ref a), .val (.ref b)] [(.long sq2), (.long sq1)])) _
      refine XS.lcmp X9.here hx rfl (hb hby d_prog_1_method_4_20) rfl ?_
      show Steps p.tables e below (T9.setTop (mkF m 21 #[.val (.ref a), .val (.ref b)] [(.int (lcmpW sq1 sq2))])) _
      exact k
    by_cases s21 : sq1 < sq2
    · refine own_go (B := T9.setTop (mkF m 29 #[.val (.ref a), .val (.ref b)] [(.int (1 : Int32))])) (fun t k => ?_) ?_
      · show Steps p.tables e below (T9.setTop (mkF m 21 #[.val (.ref a), .val (.ref b)] [(.int (lcmpW sq1 sq2))])) _
        refine XS.ifNo X9.here hx rfl (hb hby d_prog_1_method_4_21) rfl (XT.ll_ge_f s21) ?_
        show Steps p.tables e below (T9.setTop (mkF m 24 #[.val (.ref a), .val (.ref b)] [])) _
        refine XS.iconst X9.here hx rfl (hb hby d_prog_1_method_4_24) ?_
        show Steps p.tables e below (T9.setTop (mkF m 25 #[.val (.ref a), .val (.ref b)] [(.int (1 : Int32))])) _
        refine XS.goto X9.here hx rfl (pc0 := 25) (pc' := 29) rfl (hb hby d_prog_1_method_4_25) (by decide) (by decide) ?_
        show Steps p.tables e below (T9.setTop (mkF m 29 #[.val (.ref a), .val (.ref b)] [(.int (1 : Int32))])) _
        exact k
      obtain ⟨fs, hr, hrun, hended, hW, hsame⟩ := X9.leave (v := some (.int (1 : Int32))) (fun h => by rw [Bd.returns] at h; cases h)
      refine ⟨_, _, retN X9 hx (t := .boolean) Bd.returns (by simp) (hb hby d_prog_1_method_4_29) hr, hfin _ _ ⟨hrun, hended, _, _, rfl, ?_, ⟨_, rfl⟩, hW, hsame.mono (by decide) (by decide)⟩⟩
      show QAhead Z a b sq1 sq2 x y tx ty kx ky cs ds zc h0 n0 _ T9.heap _
      exact ⟨(1 : Int32), rfl, N, e9, (fun _ => rfl), (fun qq_ => absurd (show _ from (Or.inl ⟨s9, s21⟩)) qq_)⟩
    · refine own_go (B := T9.setTop (mkF m 29 #[.val (.ref a), .val (.ref b)] [(.int (0 : Int32))])) (fun t k => ?_) ?_
      · show Steps p.tables e below (T9.setTop (mkF m 21 #[.val (.ref a), .val (.ref b)] [(.int (lcmpW sq1 sq2))])) _
        refine XS.ifYes X9.here hx rfl (pc0 := 21) (pc' := 28) rfl (hb hby d_prog_1_method_4_21) rfl (XT.ll_ge_t s21) (by decide) (by decide) ?_
        show Steps p.tables e below (T9.setTop (mkF m 28 #[.val (.ref a), .val (.ref b)] [])) _
        refine XS.iconst X9.here hx rfl (hb hby d_prog_1_method_4_28) ?_
        show Steps p.tables e below (T9.setTop (mkF m 29 #[.val (.ref a), .val (.ref b)] [(.int (0 : Int32))])) _
        exact k
      obtain ⟨fs, hr, hrun, hended, hW, hsame⟩ := X9.leave (v := some (.int (0 : Int32))) (fun h => by rw [Bd.returns] at h; cases h)
      refine ⟨_, _, retN X9 hx (t := .boolean) Bd.returns (by simp) (hb hby d_prog_1_method_4_29) hr, hfin _ _ ⟨hrun, hended, _, _, rfl, ?_, ⟨_, rfl⟩, hW, hsame.mono (by decide) (by decide)⟩⟩
      show QAhead Z a b sq1 sq2 x y tx ty kx ky cs ds zc h0 n0 _ T9.heap _
      exact ⟨(0 : Int32), rfl, N, e9, (fun qq_ => absurd qq_ (fun z0 => z0.elim (fun z1 => s21 z1.2) (fun z1 => s9 z1.1))), (fun _ => rfl)⟩
def QMk (Z : State) (p1 : Int32) (p2 : Int32) (p3 : Int32) (zc : Int32) (h0 : Heap) (n0 : Nat) (v : Option Value) (h : Heap) (L : List Loc) : Prop := ∃ r : Addr, ∃ t : Addr, ∃ k : ClassId, ∃ cs : List Int32, v = some (.ref r) ∧ Fr n0 L ∧ Keep h0 h [] ∧ h0.size ≤ r ∧ Exa Z h r "java/lang/String" ∧ Fld Z h r "java/lang/String" "coder" "B" (.int (0 : Int32)) ∧ Fld Z h r "java/lang/String" "value" "[B" (.ref t) ∧ Arv Z h t k .byte (Int32.ofNat cs.length) (own_bs cs) (.int (0 : Int32)) ∧ (cs = own_cs p1 p2 p3) ∧ (∀ c ∈ cs, ¬ c < 0 ∧ ¬ (255 : Int32) < c) ∧ (cs.length ≤ 2)
theorem ef_Mk (m : MethodId) (p1 : Int32) (p2 : Int32) (p3 : Int32) : entryFrame m #[(.int p1), (.int p2), (.int p3)] 3 = mkF m 0 #[.val (.int p1), .val (.int p2), .val (.int p3)] [] := by first | (simp [entryFrame, mkF, argsToLocals, Value.category]; done) | rfl | (rfl)
set_option maxRecDepth 65536 in
set_option maxHeartbeats 40000000 in
theorem rmMk (l : Launch) (Z : State) (a0 : Array Value) (hw : ∀ d ∈ tables_1, d.before a0 Z = true) (ws : List Jvm.Cond) (p1 : Int32) (p2 : Int32) (p3 : Int32) (zc : Int32) (h0 : Heap) (n0 : Nat) (O : Old Z n0 h0) (S_C : Sta Z Z.heap "java/lang/String" "COMPACT_STRINGS" "Z" (.int zc)) (hcs : ¬ zc = (0 : Int32)) (hcH : Jvm.Lit.constHeld Z "java/lang/String" 7) (hcw : Jvm.Lit.compactW.before a0 Z = true) (hb2 : ¬ p2 < 0 ∧ ¬ (255 : Int32) < p2) (hb3 : ¬ p3 < 0 ∧ ¬ (255 : Int32) < p3) :
    MetFree l (⟨"com/example/lockline/lockline/ContenderIsAheadOfPinLaw", "mk", "(ICC)Ljava/lang/String;"⟩ : MethodName) (head1 (Jvm.Cond.code (⟨"com/example/lockline/lockline/ContenderIsAheadOfPinLaw", "mk", "(ICC)Ljava/lang/String;"⟩ : MethodName) method_3_code 3 (some (.object "java/lang/String")) :: ws) ({ frames := 4, cells := 4, slots := 8, locals := 66 } : Room)) (fun as_ U => as_ = #[(.int p1), (.int p2), (.int p3)] ∧ Z.Warmed39 U.vm ∧ U.heap = h0 ∧ Em Z U.vm h0) (fun _ _ _ _ _ => True) (fun _ U oo_ U' => ∃ vv_ LL_, oo_ = .returned vv_ ∧ QMk Z p1 p2 p3 zc h0 n0 vv_ U'.heap LL_ ∧ ReturnedEndW U oo_ U' LL_ ({ frames := 4, cells := 4, slots := 8, locals := 66 } : Room).cells ({ frames := 4, cells := 4, slots := 8, locals := 66 } : Room).slots ∧ Em Z U'.vm U'.heap) := by
  refine MetFree.of_bodySF (plainFor_of_name pn_5) hisR ?_
  intro p e s m args below meth c s₁ Bd hml0 hP hK
  obtain ⟨rfl, hZ, hh, M⟩ := hP
  have hx := Bd.exec
  have hby := Bd.bytes
  have hml : c.maxLocals = 3 := hml0
  have hown : s.vm.findClass "com/example/lockline/lockline/ContenderIsAheadOfPinLaw" = some m.cls := findClass_of_methodNamed Bd.named
  have hnm := (name_of_methodNamed Bd.named Bd.method).1
  have X0 : Stand p l e ({ frames := 4, cells := 4, slots := 8, locals := 66 } : Room) (s.setVm s.vm) m #[(.int p1), (.int p2), (.int p3)] below meth c s₁ [] 0 0 := Stand.of_body Bd
  have e0 : s₁.heap = h0 := by rw [← hh, Bd.state]; rfl
  have N := Fr.nil n0
  have hown : (s.setVm s.vm).vm.findClass "com/example/lockline/lockline/ContenderIsAheadOfPinLaw" = some m.cls := hown
  have hZ : Z.Warmed39 (s.setVm s.vm).vm := hZ
  have hS : s.Since s.vm h0.size := (State.WarmedH.refl s).since _
  have hk : h0.size ≤ h0.size := Nat.le_refl _
  have K : Keep h0 h0 [] := Keep.refl h0 _
  refine own_go (B := s₁.setTop (mkF m 0 #[.val (.int p1), .val (.int p2), .val (.int p3)] [])) (fun t k => castTop (ef_Mk m p1 p2 p3) k) ?_
  have KM : Keep h0 h0 [] := Keep.refl h0 _
  refine own_abs (fun P hfin => ?_)
  have cp2 : nar .char p2 = p2 := own_i2c hb2
  have cp3 : nar .char p3 = p3 := own_i2c hb3
  refine own_go (B := s₁.setTop (mkF m 1 #[.val (.int p1), .val (.int p2), .val (.int p3)] [(.int p1)])) (fun t k => ?_) ?_
  · show Steps p.tables e below (s₁.setTop (mkF m 0 #[.val (.int p1), .val (.int p2), .val (.int p3)] [])) _
    refine XS.iloadN X0.here hx rfl (hb hby d_method_3_0) rfl ?_
    show Steps p.tables e below (s₁.setTop (mkF m 1 #[.val (.int p1), .val (.int p2), .val (.int p3)] [(.int p1)])) _
    exact k
  by_cases l0 : p1 = (0 : Int32)
  · refine own_go (B := s₁.setTop (mkF m 4 #[.val (.int p1), .val (.int p2), .val (.int p3)] [])) (fun t k => ?_) ?_
    · show Steps p.tables e below (s₁.setTop (mkF m 1 #[.val (.int p1), .val (.int p2), .val (.int p3)] [(.int p1)])) _
      refine XS.ifNo X0.here hx rfl (hb hby d_method_3_1) rfl ((if0 _ _).trans (teq l0).2) ?_
      show Steps p.tables e below (s₁.setTop (mkF m 4 #[.val (.int p1), .val (.int p2), .val (.int p3)] [])) _
      exact k
    obtain ⟨T1, h1, X1, e1, E1, A1, D1, -, st1⟩ := newO X0 hx hZ hown (hw _ (List.mem_of_getElem? (i := 10) rfl)) (hw _ (List.mem_of_getElem? (i := 11) rfl)) (hw _ (List.mem_of_getElem? (i := 12) rfl)) e0 (g := (mkF m 4 #[.val (.int p1), .val (.int p2), .val (.int p3)] [])) rfl (hb hby d_method_3_4) (by decide) (by decide)
    obtain ⟨b1, g1⟩ : ∃ z, z = h0.size := ⟨_, rfl⟩
    rw [← g1] at A1 D1 st1
    have g_b1 : n0 ≤ b1 := Nat.le_trans (own_oldsz O) (Nat.le_of_eq g1.symm)
    have m_b1_1 : h0.size ≤ b1 := Nat.le_trans KM.1 (Nat.le_of_eq g1.symm)
    have s_b1 : h0.size ≤ b1 := Nat.le_trans K.1 (Nat.le_of_eq g1.symm)
    replace O := O.ext E1
    replace hk := Nat.le_trans hk E1.1
    replace KM := KM.ext E1
    replace K := K.ext E1
    have F1_value : Fld Z h1 b1 "java/lang/String" "value" "[B" .null := D1 (Or.inr (hw _ (List.mem_of_getElem? (i := 26) rfl))) (ty := (.array .byte)) (by decide)
    have F1_coder : Fld Z h1 b1 "java/lang/String" "coder" "B" (.int (0 : Int32)) := D1 (Or.inr (hw _ (List.mem_of_getElem? (i := 27) rfl))) (ty := .byte) (by decide)
    refine own_go (B := T1.setTop (mkF m 7 #[.val (.int p1), .val (.int p2), .val (.int p3)] [(.ref b1)])) st1 ?_
    refine own_go (B := T1.setTop (mkF m 9 #[.val (.int p1), .val (.int p2), .val (.int p3)] [(.int (0 : Int32)), (.ref b1), (.ref b1)])) (fun t k => ?_) ?_
    · show Steps p.tables e below (T1.setTop (mkF m 7 #[.val (.int p1), .val (.int p2), .val (.int p3)] [(.ref b1)])) _
      refine XS.dup X1.here hx rfl (hb hby d_method_3_7) rfl rfl ?_
      show Steps p.tables e below (T1.setTop (mkF m 8 #[.val (.int p1), .val (.int p2), .val (.int p3)] [(.ref b1), (.ref b1)])) _
      refine XS.iconst X1.here hx rfl (hb hby d_method_3_8) ?_
      show Steps p.tables e below (T1.setTop (mkF m 9 #[.val (.int p1), .val (.int p2), .val (.int p3)] [(.int (0 : Int32)), (.ref b1), (.ref b1)])) _
      exact k
    obtain ⟨T2, h2, k2, X2, e2, E2, A2, G2, st2⟩ := newPE X1 hx hZ (hw _ (List.mem_of_getElem? (i := 13) rfl)) e1 (g := (mkF m 9 #[.val (.int p1), .val (.int p2), .val (.int p3)] [(.int (0 : Int32)), (.ref b1), (.ref b1)])) rfl (hb hby d_method_3_9) rfl (by decide) (cap := 0) (by decide) (by decide) (by decide) (by decide) (ad := "[C") (by decide)
    obtain ⟨b2, g2⟩ : ∃ z, z = h1.size := ⟨_, rfl⟩
    rw [← g2] at A2 G2 st2
    have lt_b1_b2 : b1 < b2 := Nat.lt_of_lt_of_le A1.lt (Nat.le_of_eq g2.symm)
    have g_b2 : n0 ≤ b2 := Nat.le_trans (own_oldsz O) (Nat.le_of_eq g2.symm)
    have m_b2_2 : h0.size ≤ b2 := Nat.le_trans KM.1 (Nat.le_of_eq g2.symm)
    have s_b2 : h0.size ≤ b2 := Nat.le_trans K.1 (Nat.le_of_eq g2.symm)
    replace A1 := A1.ext E2
    replace F1_value := F1_value.ext E2
    replace F1_coder := F1_coder.ext E2
    replace O := O.ext E2
    replace hk := Nat.le_trans hk E2.1
    replace KM := KM.ext E2
    replace K := K.ext E2
    have V2 : Arv Z h2 b2 k2 .char (0 : Int32) [] (.int (0 : Int32)) := (Arv.new A2 (by decide)).pad (pad_rep [] (.int (0 : Int32)) 0)
    refine own_go (B := T2.setTop (mkF m 11 #[.val (.int p1), .val (.int p2), .val (.int p3)] [(.ref b2), (.ref b1), (.ref b1)])) st2 ?_
    -- pc 11: java/lang/String.<init>
    obtain ⟨_, _, ⟨T3, L3, k3, n3⟩, -, X3, hSq3, hgq3, ⟨Lc3, hQ3, l3, y3, z3⟩, st3⟩ := X2.specialBackS hx (y := (⟨"java/lang/String", "<init>", "([C)V"⟩ : MethodName)) rfl hown (mvT hZ (hw _ (List.mem_of_getElem? (i := 14) rfl))) (mvT hZ (hw _ (List.mem_of_getElem? (i := 15) rfl))) (mvT hZ (hw _ (List.mem_of_getElem? (i := 16) rfl))) (by decide) (own_backOfE (W := 1) (rmSE1 l Z a0 hw [] b1 b2 k2 ([]) (.int (0 : Int32)) h2 n0 O A1 F1_value F1_coder g_b1 V2 hcH hcw) hZ (hw _ (List.mem_of_getElem? (i := 16) rfl)) (hw _ (List.mem_of_getElem? (i := 12) rfl)) (by decide) (by decide)) (g := (mkF m 11 #[.val (.int p1), .val (.int p2), .val (.int p3)] [(.ref b2), (.ref b1), (.ref b1)])) rfl (by rw [hml]; rfl) (Steps.refl _) (a := b1) (argsL := [(.ref b2)]) (rest := [(.ref b1)]) (lenOf pd_11 rfl) rfl (by show 2 * 0 + _ ≤ _; exact Nat.le_of_eq rfl) (hb hby d_method_3_11) (fun _ hWm => ⟨rfl, e2, (by decide : 2 + 2 ≤ _), (by decide : 4 + 4 ≤ _), Em.warm (M.keep KM) hWm⟩)
    dsimp only [Pt.U, Pt.locs, Pt.cells, Pt.slots] at X3 l3 y3 z3 st3 hQ3 hSq3 hgq3
    subst l3 y3 z3
    obtain ⟨X3, hS, hZ, hown⟩ := rebS hS (by rw [e2]; exact hk) X3 hSq3 hgq3 hZ hown
    obtain ⟨⟨t3, k3, rfl, Nq3, Kq3, Gq3_0, Gq3_1, Gq3_2⟩, M⟩ := hQ3
    replace N := Fr.app N Nq3
    replace A1 := A1.keep Kq3
    clear F1_value
    clear F1_coder
    replace G2 := G2.keep Kq3
    replace V2 := V2.keep Kq3 (ninS (Nat.ne_of_gt lt_b1_b2) nin0)
    replace O := O.keep Kq3 (allS g_b1 all0)
    replace K := K.trans Kq3 (allS (Or.inr s_b1) all0)
    have hk : T3.heap.size ≤ T3.heap.size := Nat.le_refl _
    have KM : Keep T3.heap T3.heap [] := Keep.refl _ _
    refine own_go (B := T3.setTop (mkF m 14 #[.val (.int p1), .val (.int p2), .val (.int p3)] [(.ref b1)])) (fun t k => st3.trans k) ?_
    obtain ⟨fs, hr, hrun, hended, hEnd⟩ := X3.leaveW hS hk (v := some (.ref b1)) (fun h => by rw [Bd.returns] at h; cases h)
    refine ⟨_, _, own_retA X3 hx rfl Bd.returns rfl (hb hby d_method_3_14) hr, hfin _ _ ⟨hrun, hended, _, _, rfl, ?_, ⟨hEnd.1, hEnd.2.1, hEnd.2.2.1, hEnd.2.2.2.mono (by decide) (by decide)⟩, own_emR rfl (Em.warm M X3.warmed)⟩⟩
    show QMk Z p1 p2 p3 zc h0 n0 _ T3.heap _
    exact ⟨b1, t3, k3, ([] : List Int32), rfl, N, K, s_b1, A1, Gq3_0, Gq3_1, Gq3_2, ((if_pos l0).symm), (by intro c hc; simp at hc), (Nat.le_of_ble_eq_true rfl)⟩
  · refine own_go (B := s₁.setTop (mkF m 17 #[.val (.int p1), .val (.int p2), .val (.int p3)] [(.int (1 : Int32)), (.int p1)])) (fun t k => ?_) ?_
    · show Steps p.tables e below (s₁.setTop (mkF m 1 #[.val (.int p1), .val (.int p2), .val (.int p3)] [(.int p1)])) _
      refine XS.ifYes X0.here hx rfl (pc0 := 1) (pc' := 15) rfl (hb hby d_method_3_1) rfl ((if0 _ _).trans (feq l0).2) (by decide) (by decide) ?_
      show Steps p.tables e below (s₁.setTop (mkF m 15 #[.val (.int p1), .val (.int p2), .val (.int p3)] [])) _
      refine XS.iloadN X0.here hx rfl (hb hby d_method_3_15) rfl ?_
      show Steps p.tables e below (s₁.setTop (mkF m 16 #[.val (.int p1), .val (.int p2), .val (.int p3)] [(.int p1)])) _
      refine XS.iconst X0.here hx rfl (hb hby d_method_3_16) ?_
      show Steps p.tables e below (s₁.setTop (mkF m 17 #[.val (.int p1), .val (.int p2), .val (.int p3)] [(.int (1 : Int32)), (.int p1)])) _
      exact k
    by_cases l1 : p1 = (1 : Int32)
    · refine own_go (B := s₁.setTop (mkF m 21 #[.val (.int p1), .val (.int p2), .val (.int p3)] [(.int p2)])) (fun t k => ?_) ?_
      · show Steps p.tables e below (s₁.setTop (mkF m 17 #[.val (.int p1), .val (.int p2), .val (.int p3)] [(.int (1 : Int32)), (.int p1)])) _
        refine XS.icmpNo X0.here hx rfl (hb hby d_method_3_17) rfl (teq l1).2 ?_
        show Steps p.tables e below (s₁.setTop (mkF m 20 #[.val (.int p1), .val (.int p2), .val (.int p3)] [])) _
        refine XS.iloadN X0.here hx rfl (hb hby d_method_3_20) rfl ?_
        show Steps p.tables e below (s₁.setTop (mkF m 21 #[.val (.int p1), .val (.int p2), .val (.int p3)] [(.int p2)])) _
        exact k
      -- pc 21: java/lang/String.valueOf
      obtain ⟨_, _, ⟨T5, L5, k5, n5⟩, -, X5, ⟨Lc5, hQ5, l5, y5, z5⟩, st5⟩ := Jvm.LawKit.callS X0 hx (y := (⟨"java/lang/String", "valueOf", "(C)Ljava/lang/String;"⟩ : MethodName)) hown (mvT hZ (hw _ (List.mem_of_getElem? (i := 65) rfl))) (mvT hZ (hw _ (List.mem_of_getElem? (i := 66) rfl))) (mvT hZ (hw _ (List.mem_of_getElem? (i := 12) rfl))) (mvT hZ (hw _ (List.mem_of_getElem? (i := 67) rfl))) (by decide) (backOf (W := 0) (rmVO l Z a0 hw [] p2 zc h0 n0 O S_C hb2.2 hcs) hZ (hw _ (List.mem_of_getElem? (i := 67) rfl)) (hw _ (List.mem_of_getElem? (i := 12) rfl)) (by decide) (by decide)) (g := (mkF m 21 #[.val (.int p1), .val (.int p2), .val (.int p3)] [(.int p2)])) rfl (by rw [hml]; rfl) (argsL := [(.int p2)]) (rest := []) (lenOf pd_12 rfl) rfl (by show 2 * 0 + _ ≤ _; exact Nat.le_of_eq rfl) (hb hby d_method_3_21) (fun _ hWm => ⟨rfl, e0, (by decide : 0 + 2 ≤ _), (by decide : 0 + 5 ≤ _)⟩)
      dsimp only [Pt.U, Pt.locs, Pt.cells, Pt.slots] at X5 l5 y5 z5 st5 hQ5
      subst l5 y5 z5
      obtain ⟨r5, t5, k5, rfl, Nq5, Kq5, fq5_r, fq5_t, Gq5_0, Gq5_1, Gq5_2, Gq5_3⟩ := hQ5
      replace N := Fr.app N Nq5
      have g_r5 : n0 ≤ r5 := Nat.le_trans (own_oldsz O) fq5_r
      have m_r5_5 : h0.size ≤ r5 := Nat.le_trans KM.1 fq5_r
      have s_r5 : h0.size ≤ r5 := Nat.le_trans K.1 fq5_r
      have g_t5 : n0 ≤ t5 := Nat.le_trans (own_oldsz O) fq5_t
      have m_t5_5 : h0.size ≤ t5 := Nat.le_trans KM.1 fq5_t
      have s_t5 : h0.size ≤ t5 := Nat.le_trans K.1 fq5_t
      replace O := O.keep Kq5 all0
      replace hk := Nat.le_trans hk Kq5.1
      replace KM := KM.trans Kq5 all0
      replace K := K.trans Kq5 all0
      refine own_go (B := T5.setTop (mkF m 24 #[.val (.int p1), .val (.int p2), .val (.int p3)] [(.ref r5)])) st5 ?_
      obtain ⟨fs, hr, hrun, hended, hEnd⟩ := X5.leaveW hS hk (v := some (.ref r5)) (fun h => by rw [Bd.returns] at h; cases h)
      refine ⟨_, _, own_retA X5 hx rfl Bd.returns rfl (hb hby d_method_3_24) hr, hfin _ _ ⟨hrun, hended, _, _, rfl, ?_, ⟨hEnd.1, hEnd.2.1, hEnd.2.2.1, hEnd.2.2.2.mono (by decide) (by decide)⟩, own_emR rfl (Em.warm (M.keep KM) X5.warmed)⟩⟩
      show QMk Z p1 p2 p3 zc h0 n0 _ T5.heap _
      exact ⟨r5, t5, k5, ([p2] : List Int32), rfl, N, K, s_r5, Gq5_0, Gq5_1, Gq5_2, Gq5_3, (((if_neg l0).trans (if_pos l1)).symm), (by intro c hc; simp only [List.mem_cons, List.not_mem_nil, or_false] at hc; subst hc; assumption), (Nat.le_of_ble_eq_true rfl)⟩
    · refine own_go (B := s₁.setTop (mkF m 25 #[.val (.int p1), .val (.int p2), .val (.int p3)] [])) (fun t k => ?_) ?_
      · show Steps p.tables e below (s₁.setTop (mkF m 17 #[.val (.int p1), .val (.int p2), .val (.int p3)] [(.int (1 : Int32)), (.int p1)])) _
        refine XS.icmpYes X0.here hx rfl (pc0 := 17) (pc' := 25) rfl (hb hby d_method_3_17) rfl (feq l1).2 (by decide) (by decide) ?_
        show Steps p.tables e below (s₁.setTop (mkF m 25 #[.val (.int p1), .val (.int p2), .val (.int p3)] [])) _
        exact k
      obtain ⟨T7, h7, X7, e7, E7, A7, D7, -, st7⟩ := newO X0 hx hZ hown (hw _ (List.mem_of_getElem? (i := 10) rfl)) (hw _ (List.mem_of_getElem? (i := 11) rfl)) (hw _ (List.mem_of_getElem? (i := 12) rfl)) e0 (g := (mkF m 25 #[.val (.int p1), .val (.int p2), .val (.int p3)] [])) rfl (hb hby d_method_3_25) (by decide) (by decide)
      obtain ⟨b7, g7⟩ : ∃ z, z = h0.size := ⟨_, rfl⟩
      rw [← g7] at A7 D7 st7
      have g_b7 : n0 ≤ b7 := Nat.le_trans (own_oldsz O) (Nat.le_of_eq g7.symm)
      have m_b7_7 : h0.size ≤ b7 := Nat.le_trans KM.1 (Nat.le_of_eq g7.symm)
      have s_b7 : h0.size ≤ b7 := Nat.le_trans K.1 (Nat.le_of_eq g7.symm)
      replace O := O.ext E7
      replace hk := Nat.le_trans hk E7.1
      replace KM := KM.ext E7
      replace K := K.ext E7
      have F7_value : Fld Z h7 b7 "java/lang/String" "value" "[B" .null := D7 (Or.inr (hw _ (List.mem_of_getElem? (i := 26) rfl))) (ty := (.array .byte)) (by decide)
      have F7_coder : Fld Z h7 b7 "java/lang/String" "coder" "B" (.int (0 : Int32)) := D7 (Or.inr (hw _ (List.mem_of_getElem? (i := 27) rfl))) (ty := .byte) (by decide)
      refine own_go (B := T7.setTop (mkF m 28 #[.val (.int p1), .val (.int p2), .val (.int p3)] [(.ref b7)])) st7 ?_
      refine own_go (B := T7.setTop (mkF m 30 #[.val (.int p1), .val (.int p2), .val (.int p3)] [(.int (2 : Int32)), (.ref b7), (.ref b7)])) (fun t k => ?_) ?_
      · show Steps p.tables e below (T7.setTop (mkF m 28 #[.val (.int p1), .val (.int p2), .val (.int p3)] [(.ref b7)])) _
        refine XS.dup X7.here hx rfl (hb hby d_method_3_28) rfl rfl ?_
        show Steps p.tables e below (T7.setTop (mkF m 29 #[.val (.int p1), .val (.int p2), .val (.int p3)] [(.ref b7), (.ref b7)])) _
        refine XS.iconst X7.here hx rfl (hb hby d_method_3_29) ?_
        show Steps p.tables e below (T7.setTop (mkF m 30 #[.val (.int p1), .val (.int p2), .val (.int p3)] [(.int (2 : Int32)), (.ref b7), (.ref b7)])) _
        exact k
      obtain ⟨T8, h8, k8, X8, e8, E8, A8, G8, st8⟩ := newPE X7 hx hZ (hw _ (List.mem_of_getElem? (i := 13) rfl)) e7 (g := (mkF m 30 #[.val (.int p1), .val (.int p2), .val (.int p3)] [(.int (2 : Int32)), (.ref b7), (.ref b7)])) rfl (hb hby d_method_3_30) rfl (by decide) (cap := 2) (by decide) (by decide) (by decide) (by decide) (ad := "[C") (by decide)
      obtain ⟨b8, g8⟩ : ∃ z, z = h7.size := ⟨_, rfl⟩
      rw [← g8] at A8 G8 st8
      have lt_b7_b8 : b7 < b8 := Nat.lt_of_lt_of_le A7.lt (Nat.le_of_eq g8.symm)
      have g_b8 : n0 ≤ b8 := Nat.le_trans (own_oldsz O) (Nat.le_of_eq g8.symm)
      have m_b8_8 : h0.size ≤ b8 := Nat.le_trans KM.1 (Nat.le_of_eq g8.symm)
      have s_b8 : h0.size ≤ b8 := Nat.le_trans K.1 (Nat.le_of_eq g8.symm)
      replace A7 := A7.ext E8
      replace F7_value := F7_value.ext E8
      replace F7_coder := F7_coder.ext E8
      replace O := O.ext E8
      replace hk := Nat.le_trans hk E8.1
      replace KM := KM.ext E8
      replace K := K.ext E8
      have V8 : Arv Z h8 b8 k8 .char (2 : Int32) [(.int (0 : Int32)), (.int (0 : Int32))] (.int (0 : Int32)) := (Arv.new A8 (by decide)).pad (pad_rep [] (.int (0 : Int32)) 2)
      refine own_go (B := T8.setTop (mkF m 32 #[.val (.int p1), .val (.int p2), .val (.int p3)] [(.ref b8), (.ref b7), (.ref b7)])) st8 ?_
      refine own_go (B := T8.setTop (mkF m 35 #[.val (.int p1), .val (.int p2), .val (.int p3)] [(.int p2), (.int (0 : Int32)), (.ref b8), (.ref b8), (.ref b7), (.ref b7)])) (fun t k => ?_) ?_
      · show Steps p.tables e below (T8.setTop (mkF m 32 #[.val (.int p1), .val (.int p2), .val (.int p3)] [(.ref b8), (.ref b7), (.ref b7)])) _
        refine XS.dup X8.here hx rfl (hb hby d_method_3_32) rfl rfl ?_
        show Steps p.tables e below (T8.setTop (mkF m 33 #[.val (.int p1), .val (.int p2), .val (.int p3)] [(.ref b8), (.ref b8), (.ref b7), (.ref b7)])) _
        refine XS.iconst X8.here hx rfl (hb hby d_method_3_33) ?_
        show Steps p.tables e below (T8.setTop (mkF m 34 #[.val (.int p1), .val (.int p2), .val (.int p3)] [(.int (0 : Int32)), (.ref b8), (.ref b8), (.ref b7), (.ref b7)])) _
        refine XS.iloadN X8.here hx rfl (hb hby d_method_3_34) rfl ?_
        show Steps p.tables e below (T8.setTop (mkF m 35 #[.val (.int p1), .val (.int p2), .val (.int p3)] [(.int p2), (.int (0 : Int32)), (.ref b8), (.ref b8), (.ref b7), (.ref b7)])) _
        exact k
      obtain ⟨cl9, Ar9, q9, Sz9, Nn9, Hs9, Gt9⟩ := V8
      have hin9 : ¬ ((0 : Int32) < 0 ∨ cl9.slots.size ≤ ((0 : Int32)).toNatClampNeg) := inb_of Sz9 ⟨by decide, by decide⟩
      obtain ⟨T9, h9, X9, e9, W9, st9⟩ := stC X8 hx hZ e8 Ar9 (j := (0 : Int32)) hin9 (g := (mkF m 35 #[.val (.int p1), .val (.int p2), .val (.int p3)] [(.int p2), (.int (0 : Int32)), (.ref b8), (.ref b8), (.ref b7), (.ref b7)])) rfl rfl (hb hby d_method_3_35)
      have V9 := Arv.set Ar9 q9 Sz9 Nn9 Hs9 Gt9 (fits_nar_char _) W9 0 rfl (Nat.le_of_ble_eq_true rfl)
      rw [cp2] at V9
      have V9 : Arv Z h9 b8 k8 .char (2 : Int32) [(.int p2), (.int (0 : Int32))] (.int (0 : Int32)) := V9
      replace A7 := A7.wr W9
      replace F7_value := F7_value.other W9 (Or.inl (Nat.ne_of_lt lt_b7_b8))
      replace F7_coder := F7_coder.other W9 (Or.inl (Nat.ne_of_lt lt_b7_b8))
      replace G8 := G8.wr W9
      replace O := O.wr W9 g_b8
      replace hk := Nat.le_trans hk (Keep.of_wr W9).1
      replace KM := KM.wr W9 (Or.inr m_b8_8)
      replace K := K.wr W9 (Or.inr s_b8)
      replace N := Fr.snoc X9 N g_b8
      refine own_go (B := T9.setTop (mkF m 36 #[.val (.int p1), .val (.int p2), .val (.int p3)] [(.ref b8), (.ref b7), (.ref b7)])) st9 ?_
      refine own_go (B := T9.setTop (mkF m 39 #[.val (.int p1), .val (.int p2), .val (.int p3)] [(.int p3), (.int (1 : Int32)), (.ref b8), (.ref b8), (.ref b7), (.ref b7)])) (fun t k => ?_) ?_
      · show Steps p.tables e below (T9.setTop (mkF m 36 #[.val (.int p1), .val (.int p2), .val (.int p3)] [(.ref b8), (.ref b7), (.ref b7)])) _
        refine XS.dup X9.here hx rfl (hb hby d_method_3_36) rfl rfl ?_
        show Steps p.tables e below (T9.setTop (mkF m 37 #[.val (.int p1), .val (.int p2), .val (.int p3)] [(.ref b8), (.ref b8), (.ref b7), (.ref b7)])) _
        refine XS.iconst X9.here hx rfl (hb hby d_method_3_37) ?_
        show Steps p.tables e below (T9.setTop (mkF m 38 #[.val (.int p1), .val (.int p2), .val (.int p3)] [(.int (1 : Int32)), (.ref b8), (.ref b8), (.ref b7), (.ref b7)])) _
        refine XS.iloadN X9.here hx rfl (hb hby d_method_3_38) rfl ?_
        show Steps p.tables e below (T9.setTop (mkF m 39 #[.val (.int p1), .val (.int p2), .val (.int p3)] [(.int p3), (.int (1 : Int32)), (.ref b8), (.ref b8), (.ref b7), (.ref b7)])) _
        exact k
      obtain ⟨cl10, Ar10, q10, Sz10, Nn10, Hs10, Gt10⟩ := V9
      have hin10 : ¬ ((1 : Int32) < 0 ∨ cl10.slots.size ≤ ((1 : Int32)).toNatClampNeg) := inb_of Sz10 ⟨by decide, by decide⟩
      obtain ⟨T10, h10, X10, e10, W10, st10⟩ := stC X9 hx hZ e9 Ar10 (j := (1 : Int32)) hin10 (g := (mkF m 39 #[.val (.int p1), .val (.int p2), .val (.int p3)] [(.int p3), (.int (1 : Int32)), (.ref b8), (.ref b8), (.ref b7), (.ref b7)])) rfl rfl (hb hby d_method_3_39)
      have V10 := Arv.set Ar10 q10 Sz10 Nn10 Hs10 Gt10 (fits_nar_char _) W10 1 rfl (Nat.le_of_ble_eq_true rfl)
      rw [cp3] at V10
      have V10 : Arv Z h10 b8 k8 .char (2 : Int32) [(.int p2), (.int p3)] (.int (0 : Int32)) := V10
      replace A7 := A7.wr W10
      replace F7_value := F7_value.other W10 (Or.inl (Nat.ne_of_lt lt_b7_b8))
      replace F7_coder := F7_coder.other W10 (Or.inl (Nat.ne_of_lt lt_b7_b8))
      replace G8 := G8.wr W10
      replace O := O.wr W10 g_b8
      replace hk := Nat.le_trans hk (Keep.of_wr W10).1
      replace KM := KM.wr W10 (Or.inr m_b8_8)
      replace K := K.wr W10 (Or.inr s_b8)
      replace N := Fr.snoc X10 N g_b8
      refine own_go (B := T10.setTop (mkF m 40 #[.val (.int p1), .val (.int p2), .val (.int p3)] [(.ref b8), (.ref b7), (.ref b7)])) st10 ?_
      have := hb2
      have := hb3
      have hws : ∀ d ∈ StrChars.Road.words, d.before a0 Z = true := fun d hd => hw d ((by decide +kernel : ∀ d ∈ StrChars.Road.words, d ∈ tables_1) d hd)
      -- pc 40: java/lang/String.<init>
      obtain ⟨_, _, ⟨T11, L11, k11, n11⟩, -, X11, ⟨Lc11, hQ11, l11, y11, z11⟩, st11⟩ := X10.specialBack hx (y := (⟨"java/lang/String", "<init>", "([C)V"⟩ : MethodName)) rfl hown (mvT hZ (hw _ (List.mem_of_getElem? (i := 14) rfl))) (mvT hZ (hw _ (List.mem_of_getElem? (i := 15) rfl))) (mvT hZ (hw _ (List.mem_of_getElem? (i := 16) rfl))) (by decide) (StrChars.Road.backV (W := 1) hZ hws (kI := 4) (hw _ (List.mem_of_getElem? (i := 11) rfl)) (cs := ([p2, p3] : List Int32)) (bs := ([p2, p3] : List Int32).map (fun c => c.toInt8.toInt32)) (n := 2) g_b7 (own_oldsz O) A7 F7_value F7_coder V10 (S_C.ext O.2) hcs rfl rfl (by decide) (by decide) (by intro c hc; simp only [List.mem_cons, List.not_mem_nil, or_false] at hc; rcases hc with rfl | rfl <;> assumption) rfl (by decide) (by decide)) (g := (mkF m 40 #[.val (.int p1), .val (.int p2), .val (.int p3)] [(.ref b8), (.ref b7), (.ref b7)])) rfl (by rw [hml]; rfl) (Steps.refl _) (a := b7) (argsL := [(.ref b8)]) (rest := [(.ref b7)]) (lenOf pd_11 rfl) rfl (by show 2 * 0 + _ ≤ _; exact Nat.le_of_eq rfl) (hb hby d_method_3_40) (fun _ hWm => ⟨rfl, e10, (by decide : 2 + 1 ≤ _), (by decide : 6 + 2 ≤ _)⟩)
      dsimp only [Pt.U, Pt.locs, Pt.cells, Pt.slots] at X11 l11 y11 z11 st11 hQ11
      subst l11 y11 z11
      obtain ⟨rfl, Nq11, Kq11, Gq11_0, Gq11_1, t11, kb11, u11, fq11, nq11, Gq11_2, Gq11_3⟩ := hQ11
      replace N := Fr.app N Nq11
      have lt_b7_t11 : b7 < t11 := Nat.lt_of_lt_of_le A7.lt fq11
      have lt_b8_t11 : b8 < t11 := Nat.lt_of_lt_of_le G8.lt fq11
      have g_t11 : n0 ≤ t11 := Nat.le_trans (own_oldsz O) fq11
      have m_t11_11 : h0.size ≤ t11 := Nat.le_trans KM.1 fq11
      have s_t11 : h0.size ≤ t11 := Nat.le_trans K.1 fq11
      replace A7 := A7.keep Kq11
      clear F7_value
      clear F7_coder
      replace G8 := G8.keep Kq11
      replace V10 := V10.keep Kq11 (ninS (Nat.ne_of_gt lt_b7_b8) nin0)
      replace O := O.keep Kq11 (allS g_b7 all0)
      replace hk := Nat.le_trans hk Kq11.1
      replace KM := KM.trans Kq11 (allS (Or.inr m_b7_7) all0)
      replace K := K.trans Kq11 (allS (Or.inr s_b7) all0)
      refine own_go (B := T11.setTop (mkF m 43 #[.val (.int p1), .val (.int p2), .val (.int p3)] [(.ref b7)])) (fun t k => st11.trans k) ?_
      obtain ⟨fs, hr, hrun, hended, hEnd⟩ := X11.leaveW hS hk (v := some (.ref b7)) (fun h => by rw [Bd.returns] at h; cases h)
      refine ⟨_, _, own_retA X11 hx rfl Bd.returns rfl (hb hby d_method_3_43) hr, hfin _ _ ⟨hrun, hended, _, _, rfl, ?_, ⟨hEnd.1, hEnd.2.1, hEnd.2.2.1, hEnd.2.2.2.mono (by decide) (by decide)⟩, own_emR rfl (Em.warm (M.keep KM) X11.warmed)⟩⟩
      show QMk Z p1 p2 p3 zc h0 n0 _ T11.heap _
      exact ⟨b7, t11, kb11, ([p2, p3] : List Int32), rfl, N, K, s_b7, Gq11_0, Gq11_1, Gq11_2, Gq11_3, (((if_neg l0).trans (if_neg l1)).symm), (by intro c hc; simp only [List.mem_cons, List.not_mem_nil, or_false] at hc; rcases hc with rfl | rfl <;> assumption), (Nat.le_of_ble_eq_true rfl)⟩
def QLess (Z : State) (p1 : Int32) (p2 : Int32) (p3 : Int32) (p4 : Int32) (p5 : Int32) (p6 : Int32) (h0 : Heap) (n0 : Nat) (v : Option Value) (h : Heap) (L : List Loc) : Prop := ∃ vv : Int32, v = some (.int vv) ∧ Fr n0 L ∧ h = h0 ∧ (own_less p1 p2 p3 p4 p5 p6 → vv = (1 : Int32)) ∧ (¬ own_less p1 p2 p3 p4 p5 p6 → vv = (0 : Int32))
theorem ef_Less (m : MethodId) (p1 : Int32) (p2 : Int32) (p3 : Int32) (p4 : Int32) (p5 : Int32) (p6 : Int32) : entryFrame m #[(.int p1), (.int p2), (.int p3), (.int p4), (.int p5), (.int p6)] 6 = mkF m 0 #[.val (.int p1), .val (.int p2), .val (.int p3), .val (.int p4), .val (.int p5), .val (.int p6)] [] := by first | (simp [entryFrame, mkF, argsToLocals, Value.category]; done) | rfl | (rfl)
set_option maxRecDepth 65536 in
set_option maxHeartbeats 40000000 in
theorem rmLess (l : Launch) (Z : State) (a0 : Array Value) (hw : ∀ d ∈ tables_1, d.before a0 Z = true) (ws : List Jvm.Cond) (p1 : Int32) (p2 : Int32) (p3 : Int32) (p4 : Int32) (p5 : Int32) (p6 : Int32) (h0 : Heap) (n0 : Nat) (O : Old Z n0 h0)  :
    MetFree l (⟨"com/example/lockline/lockline/ContenderIsAheadOfPinLaw", "less", "(ICCICC)Z"⟩ : MethodName) (head1 (Jvm.Cond.code (⟨"com/example/lockline/lockline/ContenderIsAheadOfPinLaw", "less", "(ICCICC)Z"⟩ : MethodName) method_4_code 6 (some .boolean) :: ws) ({ frames := 0, cells := 0, slots := 0, locals := 0 } : Room)) (fun as_ U => as_ = #[(.int p1), (.int p2), (.int p3), (.int p4), (.int p5), (.int p6)] ∧ Z.Warmed39 U.vm ∧ U.heap = h0) (fun _ _ _ _ _ => True) (fun _ U oo_ U' => ∃ vv_ LL_, oo_ = .returned vv_ ∧ QLess Z p1 p2 p3 p4 p5 p6 h0 n0 vv_ U'.heap LL_ ∧ FrameEnd U oo_ U' LL_ ({ frames := 0, cells := 0, slots := 0, locals := 0 } : Room).cells ({ frames := 0, cells := 0, slots := 0, locals := 0 } : Room).slots) := by
  refine MetFree.of_bodySF (plainFor_of_name pn_5) hisR ?_
  intro p e s m args below meth c s₁ Bd hml0 hP hK
  obtain ⟨rfl, hZ, hh⟩ := hP
  have hx := Bd.exec
  have hby := Bd.bytes
  have hml : c.maxLocals = 6 := hml0
  have hown : s.vm.findClass "com/example/lockline/lockline/ContenderIsAheadOfPinLaw" = some m.cls := findClass_of_methodNamed Bd.named
  have hnm := (name_of_methodNamed Bd.named Bd.method).1
  have X0 : Stand p l e ({ frames := 0, cells := 0, slots := 0, locals := 0 } : Room) s m #[(.int p1), (.int p2), (.int p3), (.int p4), (.int p5), (.int p6)] below meth c s₁ [] 0 0 := Stand.of_body Bd
  have e0 : s₁.heap = h0 := by rw [← hh, Bd.state]; rfl
  have N := Fr.nil n0
  have K : Keep h0 h0 [] := Keep.refl h0 _
  refine own_go (B := s₁.setTop (mkF m 0 #[.val (.int p1), .val (.int p2), .val (.int p3), .val (.int p4), .val (.int p5), .val (.int p6)] [])) (fun t k => castTop (ef_Less m p1 p2 p3 p4 p5 p6) k) ?_
  refine own_abs (fun P hfin => ?_)
  refine own_go (B := s₁.setTop (mkF m 1 #[.val (.int p1), .val (.int p2), .val (.int p3), .val (.int p4), .val (.int p5), .val (.int p6)] [(.int p1)])) (fun t k => ?_) ?_
  · show Steps p.tables e below (s₁.setTop (mkF m 0 #[.val (.int p1), .val (.int p2), .val (.int p3), .val (.int p4), .val (.int p5), .val (.int p6)] [])) _
    refine XS.iloadN X0.here hx rfl (hb hby d_method_4_0) rfl ?_
    show Steps p.tables e below (s₁.setTop (mkF m 1 #[.val (.int p1), .val (.int p2), .val (.int p3), .val (.int p4), .val (.int p5), .val (.int p6)] [(.int p1)])) _
    exact k
  by_cases s1 : p1 = (0 : Int32)
  · refine own_go (B := s₁.setTop (mkF m 5 #[.val (.int p1), .val (.int p2), .val (.int p3), .val (.int p4), .val (.int p5), .val (.int p6)] [(.int p4)])) (fun t k => ?_) ?_
    · show Steps p.tables e below (s₁.setTop (mkF m 1 #[.val (.int p1), .val (.int p2), .val (.int p3), .val (.int p4), .val (.int p5), .val (.int p6)] [(.int p1)])) _
      refine XS.ifNo X0.here hx rfl (hb hby d_method_4_1) rfl ((if0 _ _).trans (teq s1).2) ?_
      show Steps p.tables e below (s₁.setTop (mkF m 4 #[.val (.int p1), .val (.int p2), .val (.int p3), .val (.int p4), .val (.int p5), .val (.int p6)] [])) _
      refine XS.iloadN X0.here hx rfl (hb hby d_method_4_4) rfl ?_
      show Steps p.tables e below (s₁.setTop (mkF m 5 #[.val (.int p1), .val (.int p2), .val (.int p3), .val (.int p4), .val (.int p5), .val (.int p6)] [(.int p4)])) _
      exact k
    by_cases s5 : (0 : Int32) < p4
    · refine own_go (B := s₁.setTop (mkF m 13 #[.val (.int p1), .val (.int p2), .val (.int p3), .val (.int p4), .val (.int p5), .val (.int p6)] [(.int (1 : Int32))])) (fun t k => ?_) ?_
      · show Steps p.tables e below (s₁.setTop (mkF m 5 #[.val (.int p1), .val (.int p2), .val (.int p3), .val (.int p4), .val (.int p5), .val (.int p6)] [(.int p4)])) _
        refine XS.ifNo X0.here hx rfl (hb hby d_method_4_5) rfl ((if0 _ _).trans (tlt s5).2.2.2) ?_
        show Steps p.tables e below (s₁.setTop (mkF m 8 #[.val (.int p1), .val (.int p2), .val (.int p3), .val (.int p4), .val (.int p5), .val (.int p6)] [])) _
        refine XS.iconst X0.here hx rfl (hb hby d_method_4_8) ?_
        show Steps p.tables e below (s₁.setTop (mkF m 9 #[.val (.int p1), .val (.int p2), .val (.int p3), .val (.int p4), .val (.int p5), .val (.int p6)] [(.int (1 : Int32))])) _
        refine XS.goto X0.here hx rfl (pc0 := 9) (pc' := 13) rfl (hb hby d_method_4_9) (by decide) (by decide) ?_
        show Steps p.tables e below (s₁.setTop (mkF m 13 #[.val (.int p1), .val (.int p2), .val (.int p3), .val (.int p4), .val (.int p5), .val (.int p6)] [(.int (1 : Int32))])) _
        exact k
      obtain ⟨fs, hr, hrun, hended, hW, hsame⟩ := X0.leave (v := some (.int (1 : Int32))) (fun h => by rw [Bd.returns] at h; cases h)
      refine ⟨_, _, retN X0 hx (t := .boolean) Bd.returns (by simp) (hb hby d_method_4_13) hr, hfin _ _ ⟨hrun, hended, _, _, rfl, ?_, ⟨_, rfl⟩, hW, hsame.mono (by decide) (by decide)⟩⟩
      show QLess Z p1 p2 p3 p4 p5 p6 h0 n0 _ s₁.heap _
      exact ⟨(1 : Int32), rfl, N, e0, (fun _ => rfl), (fun qq_ => absurd (show _ from (Or.inl ⟨s1, s5⟩)) qq_)⟩
    · refine own_go (B := s₁.setTop (mkF m 13 #[.val (.int p1), .val (.int p2), .val (.int p3), .val (.int p4), .val (.int p5), .val (.int p6)] [(.int (0 : Int32))])) (fun t k => ?_) ?_
      · show Steps p.tables e below (s₁.setTop (mkF m 5 #[.val (.int p1), .val (.int p2), .val (.int p3), .val (.int p4), .val (.int p5), .val (.int p6)] [(.int p4)])) _
        refine XS.ifYes X0.here hx rfl (pc0 := 5) (pc' := 12) rfl (hb hby d_method_4_5) rfl ((if0 _ _).trans (flt s5).2.2.2) (by decide) (by decide) ?_
        show Steps p.tables e below (s₁.setTop (mkF m 12 #[.val (.int p1), .val (.int p2), .val (.int p3), .val (.int p4), .val (.int p5), .val (.int p6)] [])) _
        refine XS.iconst X0.here hx rfl (hb hby d_method_4_12) ?_
        show Steps p.tables e below (s₁.setTop (mkF m 13 #[.val (.int p1), .val (.int p2), .val (.int p3), .val (.int p4), .val (.int p5), .val (.int p6)] [(.int (0 : Int32))])) _
        exact k
      obtain ⟨fs, hr, hrun, hended, hW, hsame⟩ := X0.leave (v := some (.int (0 : Int32))) (fun h => by rw [Bd.returns] at h; cases h)
      refine ⟨_, _, retN X0 hx (t := .boolean) Bd.returns (by simp) (hb hby d_method_4_13) hr, hfin _ _ ⟨hrun, hended, _, _, rfl, ?_, ⟨_, rfl⟩, hW, hsame.mono (by decide) (by decide)⟩⟩
      show QLess Z p1 p2 p3 p4 p5 p6 h0 n0 _ s₁.heap _
      exact ⟨(0 : Int32), rfl, N, e0, (fun qq_ => absurd qq_ (fun z0 => z0.elim (fun z1 => s5 z1.2) (fun z1 => (fun z2 => z2 s1) z1.1))), (fun _ => rfl)⟩
  · refine own_go (B := s₁.setTop (mkF m 15 #[.val (.int p1), .val (.int p2), .val (.int p3), .val (.int p4), .val (.int p5), .val (.int p6)] [(.int p4)])) (fun t k => ?_) ?_
    · show Steps p.tables e below (s₁.setTop (mkF m 1 #[.val (.int p1), .val (.int p2), .val (.int p3), .val (.int p4), .val (.int p5), .val (.int p6)] [(.int p1)])) _
      refine XS.ifYes X0.here hx rfl (pc0 := 1) (pc' := 14) rfl (hb hby d_method_4_1) rfl ((if0 _ _).trans (feq s1).2) (by decide) (by decide) ?_
      show Steps p.tables e below (s₁.setTop (mkF m 14 #[.val (.int p1), .val (.int p2), .val (.int p3), .val (.int p4), .val (.int p5), .val (.int p6)] [])) _
      refine XS.iloadN X0.here hx rfl (hb hby d_method_4_14) rfl ?_
      show Steps p.tables e below (s₁.setTop (mkF m 15 #[.val (.int p1), .val (.int p2), .val (.int p3), .val (.int p4), .val (.int p5), .val (.int p6)] [(.int p4)])) _
      exact k
    by_cases s15 : p4 = (0 : Int32)
    · refine own_go (B := s₁.setTop (mkF m 19 #[.val (.int p1), .val (.int p2), .val (.int p3), .val (.int p4), .val (.int p5), .val (.int p6)] [(.int (0 : Int32))])) (fun t k => ?_) ?_
      · show Steps p.tables e below (s₁.setTop (mkF m 15 #[.val (.int p1), .val (.int p2), .val (.int p3), .val (.int p4), .val (.int p5), .val (.int p6)] [(.int p4)])) _
        refine XS.ifNo X0.here hx rfl (hb hby d_method_4_15) rfl ((if0 _ _).trans (teq s15).2) ?_
        show Steps p.tables e below (s₁.setTop (mkF m 18 #[.val (.int p1), .val (.int p2), .val (.int p3), .val (.int p4), .val (.int p5), .val (.int p6)] [])) _
        refine XS.iconst X0.here hx rfl (hb hby d_method_4_18) ?_
        show Steps p.tables e below (s₁.setTop (mkF m 19 #[.val (.int p1), .val (.int p2), .val (.int p3), .val (.int p4), .val (.int p5), .val (.int p6)] [(.int (0 : Int32))])) _
        exact k
      obtain ⟨fs, hr, hrun, hended, hW, hsame⟩ := X0.leave (v := some (.int (0 : Int32))) (fun h => by rw [Bd.returns] at h; cases h)
      refine ⟨_, _, retN X0 hx (t := .boolean) Bd.returns (by simp) (hb hby d_method_4_19) hr, hfin _ _ ⟨hrun, hended, _, _, rfl, ?_, ⟨_, rfl⟩, hW, hsame.mono (by decide) (by decide)⟩⟩
      show QLess Z p1 p2 p3 p4 p5 p6 h0 n0 _ s₁.heap _
      exact ⟨(0 : Int32), rfl, N, e0, (fun qq_ => absurd qq_ (fun z0 => z0.elim (fun z1 => s1 z1.1) (fun z1 => (fun z2 => (fun z3 => z3 s15) z2.1) z1.2))), (fun _ => rfl)⟩
    · refine own_go (B := s₁.setTop (mkF m 23 #[.val (.int p1), .val (.int p2), .val (.int p3), .val (.int p4), .val (.int p5), .val (.int p6)] [(.int p5), (.int p2)])) (fun t k => ?_) ?_
      · show Steps p.tables e below (s₁.setTop (mkF m 15 #[.val (.int p1), .val (.int p2), .val (.int p3), .val (.int p4), .val (.int p5), .val (.int p6)] [(.int p4)])) _
        refine XS.ifYes X0.here hx rfl (pc0 := 15) (pc' := 20) rfl (hb hby d_method_4_15) rfl ((if0 _ _).trans (feq s15).2) (by decide) (by decide) ?_
        show Steps p.tables e below (s₁.setTop (mkF m 20 #[.val (.int p1), .val (.int p2), .val (.int p3), .val (.int p4), .val (.int p5), .val (.int p6)] [])) _
        refine XS.iloadN X0.here hx rfl (hb hby d_method_4_20) rfl ?_
        show Steps p.tables e below (s₁.setTop (mkF m 21 #[.val (.int p1), .val (.int p2), .val (.int p3), .val (.int p4), .val (.int p5), .val (.int p6)] [(.int p2)])) _
        refine XS.iload X0.here hx rfl (hb hby d_method_4_21) rfl ?_
        show Steps p.tables e below (s₁.setTop (mkF m 23 #[.val (.int p1), .val (.int p2), .val (.int p3), .val (.int p4), .val (.int p5), .val (.int p6)] [(.int p5), (.int p2)])) _
        exact k
      by_cases s23 : p2 = p5
      · refine own_go (B := s₁.setTop (mkF m 40 #[.val (.int p1), .val (.int p2), .val (.int p3), .val (.int p4), .val (.int p5), .val (.int p6)] [(.int (1 : Int32)), (.int p1)])) (fun t k => ?_) ?_
        · show Steps p.tables e below (s₁.setTop (mkF m 23 #[.val (.int p1), .val (.int p2), .val (.int p3), .val (.int p4), .val (.int p5), .val (.int p6)] [(.int p5), (.int p2)])) _
          refine XS.icmpYes X0.here hx rfl (pc0 := 23) (pc' := 38) rfl (hb hby d_method_4_23) rfl (teq s23).1 (by decide) (by decide) ?_
          show Steps p.tables e below (s₁.setTop (mkF m 38 #[.val (.int p1), .val (.int p2), .val (.int p3), .val (.int p4), .val (.int p5), .val (.int p6)] [])) _
          refine XS.iloadN X0.here hx rfl (hb hby d_method_4_38) rfl ?_
          show Steps p.tables e below (s₁.setTop (mkF m 39 #[.val (.int p1), .val (.int p2), .val (.int p3), .val (.int p4), .val (.int p5), .val (.int p6)] [(.int p1)])) _
          refine XS.iconst X0.here hx rfl (hb hby d_method_4_39) ?_
          show Steps p.tables e below (s₁.setTop (mkF m 40 #[.val (.int p1), .val (.int p2), .val (.int p3), .val (.int p4), .val (.int p5), .val (.int p6)] [(.int (1 : Int32)), (.int p1)])) _
          exact k
        by_cases s40 : p1 = (1 : Int32)
        · refine own_go (B := s₁.setTop (mkF m 45 #[.val (.int p1), .val (.int p2), .val (.int p3), .val (.int p4), .val (.int p5), .val (.int p6)] [(.int (2 : Int32)), (.int p4)])) (fun t k => ?_) ?_
          · show Steps p.tables e below (s₁.setTop (mkF m 40 #[.val (.int p1), .val (.int p2), .val (.int p3), .val (.int p4), .val (.int p5), .val (.int p6)] [(.int (1 : Int32)), (.int p1)])) _
            refine XS.icmpNo X0.here hx rfl (hb hby d_method_4_40) rfl (teq s40).2 ?_
            show Steps p.tables e below (s₁.setTop (mkF m 43 #[.val (.int p1), .val (.int p2), .val (.int p3), .val (.int p4), .val (.int p5), .val (.int p6)] [])) _
            refine XS.iloadN X0.here hx rfl (hb hby d_method_4_43) rfl ?_
            show Steps p.tables e below (s₁.setTop (mkF m 44 #[.val (.int p1), .val (.int p2), .val (.int p3), .val (.int p4), .val (.int p5), .val (.int p6)] [(.int p4)])) _
            refine XS.iconst X0.here hx rfl (hb hby d_method_4_44) ?_
            show Steps p.tables e below (s₁.setTop (mkF m 45 #[.val (.int p1), .val (.int p2), .val (.int p3), .val (.int p4), .val (.int p5), .val (.int p6)] [(.int (2 : Int32)), (.int p4)])) _
            exact k
          by_cases s45 : p4 = (2 : Int32)
          · refine own_go (B := s₁.setTop (mkF m 53 #[.val (.int p1), .val (.int p2), .val (.int p3), .val (.int p4), .val (.int p5), .val (.int p6)] [(.int (1 : Int32))])) (fun t k => ?_) ?_
            · show Steps p.tables e below (s₁.setTop (mkF m 45 #[.val (.int p1), .val (.int p2), .val (.int p3), .val (.int p4), .val (.int p5), .val (.int p6)] [(.int (2 : Int32)), (.int p4)])) _
              refine XS.icmpNo X0.here hx rfl (hb hby d_method_4_45) rfl (teq s45).2 ?_
              show Steps p.tables e below (s₁.setTop (mkF m 48 #[.val (.int p1), .val (.int p2), .val (.int p3), .val (.int p4), .val (.int p5), .val (.int p6)] [])) _
              refine XS.iconst X0.here hx rfl (hb hby d_method_4_48) ?_
              show Steps p.tables e below (s₁.setTop (mkF m 49 #[.val (.int p1), .val (.int p2), .val (.int p3), .val (.int p4), .val (.int p5), .val (.int p6)] [(.int (1 : Int32))])) _
              refine XS.goto X0.here hx rfl (pc0 := 49) (pc' := 53) rfl (hb hby d_method_4_49) (by decide) (by decide) ?_
              show Steps p.tables e below (s₁.setTop (mkF m 53 #[.val (.int p1), .val (.int p2), .val (.int p3), .val (.int p4), .val (.int p5), .val (.int p6)] [(.int (1 : Int32))])) _
              exact k
            obtain ⟨fs, hr, hrun, hended, hW, hsame⟩ := X0.leave (v := some (.int (1 : Int32))) (fun h => by rw [Bd.returns] at h; cases h)
            refine ⟨_, _, retN X0 hx (t := .boolean) Bd.returns (by simp) (hb hby d_method_4_53) hr, hfin _ _ ⟨hrun, hended, _, _, rfl, ?_, ⟨_, rfl⟩, hW, hsame.mono (by decide) (by decide)⟩⟩
            show QLess Z p1 p2 p3 p4 p5 p6 h0 n0 _ s₁.heap _
            exact ⟨(1 : Int32), rfl, N, e0, (fun _ => rfl), (fun qq_ => absurd (show _ from (Or.inr ⟨s1, ⟨s15, (Or.inr ⟨s23, (Or.inl ⟨s40, s45⟩)⟩)⟩⟩)) qq_)⟩
          · refine own_go (B := s₁.setTop (mkF m 53 #[.val (.int p1), .val (.int p2), .val (.int p3), .val (.int p4), .val (.int p5), .val (.int p6)] [(.int (0 : Int32))])) (fun t k => ?_) ?_
            · show Steps p.tables e below (s₁.setTop (mkF m 45 #[.val (.int p1), .val (.int p2), .val (.int p3), .val (.int p4), .val (.int p5), .val (.int p6)] [(.int (2 : Int32)), (.int p4)])) _
              refine XS.icmpYes X0.here hx rfl (pc0 := 45) (pc' := 52) rfl (hb hby d_method_4_45) rfl (feq s45).2 (by decide) (by decide) ?_
              show Steps p.tables e below (s₁.setTop (mkF m 52 #[.val (.int p1), .val (.int p2), .val (.int p3), .val (.int p4), .val (.int p5), .val (.int p6)] [])) _
              refine XS.iconst X0.here hx rfl (hb hby d_method_4_52) ?_
              show Steps p.tables e below (s₁.setTop (mkF m 53 #[.val (.int p1), .val (.int p2), .val (.int p3), .val (.int p4), .val (.int p5), .val (.int p6)] [(.int (0 : Int32))])) _
              exact k
            obtain ⟨fs, hr, hrun, hended, hW, hsame⟩ := X0.leave (v := some (.int (0 : Int32))) (fun h => by rw [Bd.returns] at h; cases h)
            refine ⟨_, _, retN X0 hx (t := .boolean) Bd.returns (by simp) (hb hby d_method_4_53) hr, hfin _ _ ⟨hrun, hended, _, _, rfl, ?_, ⟨_, rfl⟩, hW, hsame.mono (by decide) (by decide)⟩⟩
            show QLess Z p1 p2 p3 p4 p5 p6 h0 n0 _ s₁.heap _
            exact ⟨(0 : Int32), rfl, N, e0, (fun qq_ => absurd qq_ (fun z0 => z0.elim (fun z1 => s1 z1.1) (fun z1 => (fun z2 => (fun z3 => z3.elim (fun z4 => (fun z5 => z5 s23) z4.1) (fun z4 => (fun z5 => z5.elim (fun z6 => s45 z6.2) (fun z6 => (fun z7 => z7 s40) z6.1)) z4.2)) z2.2) z1.2))), (fun _ => rfl)⟩
        · refine own_go (B := s₁.setTop (mkF m 56 #[.val (.int p1), .val (.int p2), .val (.int p3), .val (.int p4), .val (.int p5), .val (.int p6)] [(.int (1 : Int32)), (.int p4)])) (fun t k => ?_) ?_
          · show Steps p.tables e below (s₁.setTop (mkF m 40 #[.val (.int p1), .val (.int p2), .val (.int p3), .val (.int p4), .val (.int p5), .val (.int p6)] [(.int (1 : Int32)), (.int p1)])) _
            refine XS.icmpYes X0.here hx rfl (pc0 := 40) (pc' := 54) rfl (hb hby d_method_4_40) rfl (feq s40).2 (by decide) (by decide) ?_
            show Steps p.tables e below (s₁.setTop (mkF m 54 #[.val (.int p1), .val (.int p2), .val (.int p3), .val (.int p4), .val (.int p5), .val (.int p6)] [])) _
            refine XS.iloadN X0.here hx rfl (hb hby d_method_4_54) rfl ?_
            show Steps p.tables e below (s₁.setTop (mkF m 55 #[.val (.int p1), .val (.int p2), .val (.int p3), .val (.int p4), .val (.int p5), .val (.int p6)] [(.int p4)])) _
            refine XS.iconst X0.here hx rfl (hb hby d_method_4_55) ?_
            show Steps p.tables e below (s₁.setTop (mkF m 56 #[.val (.int p1), .val (.int p2), .val (.int p3), .val (.int p4), .val (.int p5), .val (.int p6)] [(.int (1 : Int32)), (.int p4)])) _
            exact k
          by_cases s56 : p4 = (1 : Int32)
          · refine own_go (B := s₁.setTop (mkF m 60 #[.val (.int p1), .val (.int p2), .val (.int p3), .val (.int p4), .val (.int p5), .val (.int p6)] [(.int (0 : Int32))])) (fun t k => ?_) ?_
            · show Steps p.tables e below (s₁.setTop (mkF m 56 #[.val (.int p1), .val (.int p2), .val (.int p3), .val (.int p4), .val (.int p5), .val (.int p6)] [(.int (1 : Int32)), (.int p4)])) _
              refine XS.icmpNo X0.here hx rfl (hb hby d_method_4_56) rfl (teq s56).2 ?_
              show Steps p.tables e below (s₁.setTop (mkF m 59 #[.val (.int p1), .val (.int p2), .val (.int p3), .val (.int p4), .val (.int p5), .val (.int p6)] [])) _
              refine XS.iconst X0.here hx rfl (hb hby d_method_4_59) ?_
              show Steps p.tables e below (s₁.setTop (mkF m 60 #[.val (.int p1), .val (.int p2), .val (.int p3), .val (.int p4), .val (.int p5), .val (.int p6)] [(.int (0 : Int32))])) _
              exact k
            obtain ⟨fs, hr, hrun, hended, hW, hsame⟩ := X0.leave (v := some (.int (0 : Int32))) (fun h => by rw [Bd.returns] at h; cases h)
            refine ⟨_, _, retN X0 hx (t := .boolean) Bd.returns (by simp) (hb hby d_method_4_60) hr, hfin _ _ ⟨hrun, hended, _, _, rfl, ?_, ⟨_, rfl⟩, hW, hsame.mono (by decide) (by decide)⟩⟩
            show QLess Z p1 p2 p3 p4 p5 p6 h0 n0 _ s₁.heap _
            exact ⟨(0 : Int32), rfl, N, e0, (fun qq_ => absurd qq_ (fun z0 => z0.elim (fun z1 => s1 z1.1) (fun z1 => (fun z2 => (fun z3 => z3.elim (fun z4 => (fun z5 => z5 s23) z4.1) (fun z4 => (fun z5 => z5.elim (fun z6 => s40 z6.1) (fun z6 => (fun z7 => (fun z8 => z8 s56) z7.1) z6.2)) z4.2)) z2.2) z1.2))), (fun _ => rfl)⟩
          · refine own_go (B := s₁.setTop (mkF m 64 #[.val (.int p1), .val (.int p2), .val (.int p3), .val (.int p4), .val (.int p5), .val (.int p6)] [(.int p6), (.int p3)])) (fun t k => ?_) ?_
            · show Steps p.tables e below (s₁.setTop (mkF m 56 #[.val (.int p1), .val (.int p2), .val (.int p3), .val (.int p4), .val (.int p5), .val (.int p6)] [(.int (1 : Int32)), (.int p4)])) _
              refine XS.icmpYes X0.here hx rfl (pc0 := 56) (pc' := 61) rfl (hb hby d_method_4_56) rfl (feq s56).2 (by decide) (by decide) ?_
              show Steps p.tables e below (s₁.setTop (mkF m 61 #[.val (.int p1), .val (.int p2), .val (.int p3), .val (.int p4), .val (.int p5), .val (.int p6)] [])) _
              refine XS.iloadN X0.here hx rfl (hb hby d_method_4_61) rfl ?_
              show Steps p.tables e below (s₁.setTop (mkF m 62 #[.val (.int p1), .val (.int p2), .val (.int p3), .val (.int p4), .val (.int p5), .val (.int p6)] [(.int p3)])) _
              refine XS.iload X0.here hx rfl (hb hby d_method_4_62) rfl ?_
              show Steps p.tables e below (s₁.setTop (mkF m 64 #[.val (.int p1), .val (.int p2), .val (.int p3), .val (.int p4), .val (.int p5), .val (.int p6)] [(.int p6), (.int p3)])) _
              exact k
            by_cases s64 : p3 = p6
            · refine own_go (B := s₁.setTop (mkF m 80 #[.val (.int p1), .val (.int p2), .val (.int p3), .val (.int p4), .val (.int p5), .val (.int p6)] [(.int (0 : Int32))])) (fun t k => ?_) ?_
              · show Steps p.tables e below (s₁.setTop (mkF m 64 #[.val (.int p1), .val (.int p2), .val (.int p3), .val (.int p4), .val (.int p5), .val (.int p6)] [(.int p6), (.int p3)])) _
                refine XS.icmpYes X0.here hx rfl (pc0 := 64) (pc' := 79) rfl (hb hby d_method_4_64) rfl (teq s64).1 (by decide) (by decide) ?_
                show Steps p.tables e below (s₁.setTop (mkF m 79 #[.val (.int p1), .val (.int p2), .val (.int p3), .val (.int p4), .val (.int p5), .val (.int p6)] [])) _
                refine XS.iconst X0.here hx rfl (hb hby d_method_4_79) ?_
                show Steps p.tables e below (s₁.setTop (mkF m 80 #[.val (.int p1), .val (.int p2), .val (.int p3), .val (.int p4), .val (.int p5), .val (.int p6)] [(.int (0 : Int32))])) _
                exact k
              obtain ⟨fs, hr, hrun, hended, hW, hsame⟩ := X0.leave (v := some (.int (0 : Int32))) (fun h => by rw [Bd.returns] at h; cases h)
              refine ⟨_, _, retN X0 hx (t := .boolean) Bd.returns (by simp) (hb hby d_method_4_80) hr, hfin _ _ ⟨hrun, hended, _, _, rfl, ?_, ⟨_, rfl⟩, hW, hsame.mono (by decide) (by decide)⟩⟩
              show QLess Z p1 p2 p3 p4 p5 p6 h0 n0 _ s₁.heap _
              exact ⟨(0 : Int32), rfl, N, e0, (fun qq_ => absurd qq_ (fun z0 => z0.elim (fun z1 => s1 z1.1) (fun z1 => (fun z2 => (fun z3 => z3.elim (fun z4 => (fun z5 => z5 s23) z4.1) (fun z4 => (fun z5 => z5.elim (fun z6 => s40 z6.1) (fun z6 => (fun z7 => (fun z8 => (fun z9 => z9 s64) z8.1) z7.2) z6.2)) z4.2)) z2.2) z1.2))), (fun _ => rfl)⟩
            · refine own_go (B := s₁.setTop (mkF m 70 #[.val (.int p1), .val (.int p2), .val (.int p3), .val (.int p4), .val (.int p5), .val (.int p6)] [(.int p6), (.int p3)])) (fun t k => ?_) ?_
              · show Steps p.tables e below (s₁.setTop (mkF m 64 #[.val (.int p1), .val (.int p2), .val (.int p3), .val (.int p4), .val (.int p5), .val (.int p6)] [(.int p6), (.int p3)])) _
                refine XS.icmpNo X0.here hx rfl (hb hby d_method_4_64) rfl (feq s64).1 ?_
                show Steps p.tables e below (s₁.setTop (mkF m 67 #[.val (.int p1), .val (.int p2), .val (.int p3), .val (.int p4), .val (.int p5), .val (.int p6)] [])) _
                refine XS.iloadN X0.here hx rfl (hb hby d_method_4_67) rfl ?_
                show Steps p.tables e below (s₁.setTop (mkF m 68 #[.val (.int p1), .val (.int p2), .val (.int p3), .val (.int p4), .val (.int p5), .val (.int p6)] [(.int p3)])) _
                refine XS.iload X0.here hx rfl (hb hby d_method_4_68) rfl ?_
                show Steps p.tables e below (s₁.setTop (mkF m 70 #[.val (.int p1), .val (.int p2), .val (.int p3), .val (.int p4), .val (.int p5), .val (.int p6)] [(.int p6), (.int p3)])) _
                exact k
              by_cases s70 : p3 < p6
              · refine own_go (B := s₁.setTop (mkF m 78 #[.val (.int p1), .val (.int p2), .val (.int p3), .val (.int p4), .val (.int p5), .val (.int p6)] [(.int (1 : Int32))])) (fun t k => ?_) ?_
                · show Steps p.tables e below (s₁.setTop (mkF m 70 #[.val (.int p1), .val (.int p2), .val (.int p3), .val (.int p4), .val (.int p5), .val (.int p6)] [(.int p6), (.int p3)])) _
                  refine XS.icmpNo X0.here hx rfl (hb hby d_method_4_70) rfl (tlt s70).2.1 ?_
                  show Steps p.tables e below (s₁.setTop (mkF m 73 #[.val (.int p1), .val (.int p2), .val (.int p3), .val (.int p4), .val (.int p5), .val (.int p6)] [])) _
                  refine XS.iconst X0.here hx rfl (hb hby d_method_4_73) ?_
                  show Steps p.tables e below (s₁.setTop (mkF m 74 #[.val (.int p1), .val (.int p2), .val (.int p3), .val (.int p4), .val (.int p5), .val (.int p6)] [(.int (1 : Int32))])) _
                  refine XS.goto X0.here hx rfl (pc0 := 74) (pc' := 78) rfl (hb hby d_method_4_74) (by decide) (by decide) ?_
                  show Steps p.tables e below (s₁.setTop (mkF m 78 #[.val (.int p1), .val (.int p2), .val (.int p3), .val (.int p4), .val (.int p5), .val (.int p6)] [(.int (1 : Int32))])) _
                  exact k
                obtain ⟨fs, hr, hrun, hended, hW, hsame⟩ := X0.leave (v := some (.int (1 : Int32))) (fun h => by rw [Bd.returns] at h; cases h)
                refine ⟨_, _, retN X0 hx (t := .boolean) Bd.returns (by simp) (hb hby d_method_4_78) hr, hfin _ _ ⟨hrun, hended, _, _, rfl, ?_, ⟨_, rfl⟩, hW, hsame.mono (by decide) (by decide)⟩⟩
                show QLess Z p1 p2 p3 p4 p5 p6 h0 n0 _ s₁.heap _
                exact ⟨(1 : Int32), rfl, N, e0, (fun _ => rfl), (fun qq_ => absurd (show _ from (Or.inr ⟨s1, ⟨s15, (Or.inr ⟨s23, (Or.inr ⟨s40, ⟨s56, ⟨s64, s70⟩⟩⟩)⟩)⟩⟩)) qq_)⟩
              · refine own_go (B := s₁.setTop (mkF m 78 #[.val (.int p1), .val (.int p2), .val (.int p3), .val (.int p4), .val (.int p5), .val (.int p6)] [(.int (0 : Int32))])) (fun t k => ?_) ?_
                · show Steps p.tables e below (s₁.setTop (mkF m 70 #[.val (.int p1), .val (.int p2), .val (.int p3), .val (.int p4), .val (.int p5), .val (.int p6)] [(.int p6), (.int p3)])) _
                  refine XS.icmpYes X0.here hx rfl (pc0 := 70) (pc' := 77) rfl (hb hby d_method_4_70) rfl (flt s70).2.1 (by decide) (by decide) ?_
                  show Steps p.tables e below (s₁.setTop (mkF m 77 #[.val (.int p1), .val (.int p2), .val (.int p3), .val (.int p4), .val (.int p5), .val (.int p6)] [])) _
                  refine XS.iconst X0.here hx rfl (hb hby d_method_4_77) ?_
                  show Steps p.tables e below (s₁.setTop (mkF m 78 #[.val (.int p1), .val (.int p2), .val (.int p3), .val (.int p4), .val (.int p5), .val (.int p6)] [(.int (0 : Int32))])) _
                  exact k
                obtain ⟨fs, hr, hrun, hended, hW, hsame⟩ := X0.leave (v := some (.int (0 : Int32))) (fun h => by rw [Bd.returns] at h; cases h)
                refine ⟨_, _, retN X0 hx (t := .boolean) Bd.returns (by simp) (hb hby d_method_4_78) hr, hfin _ _ ⟨hrun, hended, _, _, rfl, ?_, ⟨_, rfl⟩, hW, hsame.mono (by decide) (by decide)⟩⟩
                show QLess Z p1 p2 p3 p4 p5 p6 h0 n0 _ s₁.heap _
                exact ⟨(0 : Int32), rfl, N, e0, (fun qq_ => absurd qq_ (fun z0 => z0.elim (fun z1 => s1 z1.1) (fun z1 => (fun z2 => (fun z3 => z3.elim (fun z4 => (fun z5 => z5 s23) z4.1) (fun z4 => (fun z5 => z5.elim (fun z6 => s40 z6.1) (fun z6 => (fun z7 => (fun z8 => s70 z8.2) z7.2) z6.2)) z4.2)) z2.2) z1.2))), (fun _ => rfl)⟩
      · refine own_go (B := s₁.setTop (mkF m 29 #[.val (.int p1), .val (.int p2), .val (.int p3), .val (.int p4), .val (.int p5), .val (.int p6)] [(.int p5), (.int p2)])) (fun t k => ?_) ?_
        · show Steps p.tables e below (s₁.setTop (mkF m 23 #[.val (.int p1), .val (.int p2), .val (.int p3), .val (.int p4), .val (.int p5), .val (.int p6)] [(.int p5), (.int p2)])) _
          refine XS.icmpNo X0.here hx rfl (hb hby d_method_4_23) rfl (feq s23).1 ?_
          show Steps p.tables e below (s₁.setTop (mkF m 26 #[.val (.int p1), .val (.int p2), .val (.int p3), .val (.int p4), .val (.int p5), .val (.int p6)] [])) _
          refine XS.iloadN X0.here hx rfl (hb hby d_method_4_26) rfl ?_
          show Steps p.tables e below (s₁.setTop (mkF m 27 #[.val (.int p1), .val (.int p2), .val (.int p3), .val (.int p4), .val (.int p5), .val (.int p6)] [(.int p2)])) _
          refine XS.iload X0.here hx rfl (hb hby d_method_4_27) rfl ?_
          show Steps p.tables e below (s₁.setTop (mkF m 29 #[.val (.int p1), .val (.int p2), .val (.int p3), .val (.int p4), .val (.int p5), .val (.int p6)] [(.int p5), (.int p2)])) _
          exact k
        by_cases s29 : p2 < p5
        · refine own_go (B := s₁.setTop (mkF m 37 #[.val (.int p1), .val (.int p2), .val (.int p3), .val (.int p4), .val (.int p5), .val (.int p6)] [(.int (1 : Int32))])) (fun t k => ?_) ?_
          · show Steps p.tables e below (s₁.setTop (mkF m 29 #[.val (.int p1), .val (.int p2), .val (.int p3), .val (.int p4), .val (.int p5), .val (.int p6)] [(.int p5), (.int p2)])) _
            refine XS.icmpNo X0.here hx rfl (hb hby d_method_4_29) rfl (tlt s29).2.1 ?_
            show Steps p.tables e below (s₁.setTop (mkF m 32 #[.val (.int p1), .val (.int p2), .val (.int p3), .val (.int p4), .val (.int p5), .val (.int p6)] [])) _
            refine XS.iconst X0.here hx rfl (hb hby d_method_4_32) ?_
            show Steps p.tables e below (s₁.setTop (mkF m 33 #[.val (.int p1), .val (.int p2), .val (.int p3), .val (.int p4), .val (.int p5), .val (.int p6)] [(.int (1 : Int32))])) _
            refine XS.goto X0.here hx rfl (pc0 := 33) (pc' := 37) rfl (hb hby d_method_4_33) (by decide) (by decide) ?_
            show Steps p.tables e below (s₁.setTop (mkF m 37 #[.val (.int p1), .val (.int p2), .val (.int p3), .val (.int p4), .val (.int p5), .val (.int p6)] [(.int (1 : Int32))])) _
            exact k
          obtain ⟨fs, hr, hrun, hended, hW, hsame⟩ := X0.leave (v := some (.int (1 : Int32))) (fun h => by rw [Bd.returns] at h; cases h)
          refine ⟨_, _, retN X0 hx (t := .boolean) Bd.returns (by simp) (hb hby d_method_4_37) hr, hfin _ _ ⟨hrun, hended, _, _, rfl, ?_, ⟨_, rfl⟩, hW, hsame.mono (by decide) (by decide)⟩⟩
          show QLess Z p1 p2 p3 p4 p5 p6 h0 n0 _ s₁.heap _
          exact ⟨(1 : Int32), rfl, N, e0, (fun _ => rfl), (fun qq_ => absurd (show _ from (Or.inr ⟨s1, ⟨s15, (Or.inl ⟨s23, s29⟩)⟩⟩)) qq_)⟩
        · refine own_go (B := s₁.setTop (mkF m 37 #[.val (.int p1), .val (.int p2), .val (.int p3), .val (.int p4), .val (.int p5), .val (.int p6)] [(.int (0 : Int32))])) (fun t k => ?_) ?_
          · show Steps p.tables e below (s₁.setTop (mkF m 29 #[.val (.int p1), .val (.int p2), .val (.int p3), .val (.int p4), .val (.int p5), .val (.int p6)] [(.int p5), (.int p2)])) _
            refine XS.icmpYes X0.here hx rfl (pc0 := 29) (pc' := 36) rfl (hb hby d_method_4_29) rfl (flt s29).2.1 (by decide) (by decide) ?_
            show Steps p.tables e below (s₁.setTop (mkF m 36 #[.val (.int p1), .val (.int p2), .val (.int p3), .val (.int p4), .val (.int p5), .val (.int p6)] [])) _
            refine XS.iconst X0.here hx rfl (hb hby d_method_4_36) ?_
            show Steps p.tables e below (s₁.setTop (mkF m 37 #[.val (.int p1), .val (.int p2), .val (.int p3), .val (.int p4), .val (.int p5), .val (.int p6)] [(.int (0 : Int32))])) _
            exact k
          obtain ⟨fs, hr, hrun, hended, hW, hsame⟩ := X0.leave (v := some (.int (0 : Int32))) (fun h => by rw [Bd.returns] at h; cases h)
          refine ⟨_, _, retN X0 hx (t := .boolean) Bd.returns (by simp) (hb hby d_method_4_37) hr, hfin _ _ ⟨hrun, hended, _, _, rfl, ?_, ⟨_, rfl⟩, hW, hsame.mono (by decide) (by decide)⟩⟩
          show QLess Z p1 p2 p3 p4 p5 p6 h0 n0 _ s₁.heap _
          exact ⟨(0 : Int32), rfl, N, e0, (fun qq_ => absurd qq_ (fun z0 => z0.elim (fun z1 => s1 z1.1) (fun z1 => (fun z2 => (fun z3 => z3.elim (fun z4 => s29 z4.2) (fun z4 => s23 z4.1)) z2.2) z1.2))), (fun _ => rfl)⟩
def QCtI (Z : State) (a : Addr) (s1 : Addr) (kk_ : Addr) (sq1 : Int64) (h0 : Heap) (n0 : Nat) (v : Option Value) (h : Heap) (L : List Loc) : Prop := v = none ∧ Fr n0 L ∧ Keep h0 h [a] ∧ Fld Z h a "com/example/lockline/lockline/Contender" "name" "Ljava/lang/String;" (.ref s1) ∧ Fld Z h a "com/example/lockline/lockline/Contender" "sequence" "J" (.long sq1)
theorem ef_CtI (m : MethodId) (a : Addr) (s1 : Addr) (kk_ : Addr) (sq1 : Int64) : entryFrame m #[(.ref a), (.ref s1), (.ref kk_), (.long sq1)] 5 = mkF m 0 #[.val (.ref a), .val (.ref s1), .val (.ref kk_), .val (.long sq1), .second] [] := by first | (simp [entryFrame, mkF, argsToLocals, Value.category]; done) | rfl | (rfl)
set_option maxRecDepth 65536 in
set_option maxHeartbeats 40000000 in
theorem rmCtI (l : Launch) (Z : State) (a0 : Array Value) (hw : ∀ d ∈ tables_1, d.before a0 Z = true) (ws : List Jvm.Cond) (a : Addr) (s1 : Addr) (kk_ : Addr) (sq1 : Int64) (h0 : Heap) (n0 : Nat) (O : Old Z n0 h0) (E : Exa Z h0 a "com/example/lockline/lockline/Contender") (F1 : Fld Z h0 a "com/example/lockline/lockline/Contender" "name" "Ljava/lang/String;" .null) (F2 : Fld Z h0 a "com/example/lockline/lockline/Contender" "kind" "Lcom/example/lockline/lockline/Contender$Kind;" .null) (F3 : Fld Z h0 a "com/example/lockline/lockline/Contender" "sequence" "J" (.long (0 : Int64))) (ga : n0 ≤ a) :
    MetFree l (⟨"com/example/lockline/lockline/Contender", "<init>", "(Ljava/lang/String;Lcom/example/lockline/lockline/Contender$Kind;J)V"⟩ : MethodName) (head1 (Jvm.Cond.code (⟨"com/example/lockline/lockline/Contender", "<init>", "(Ljava/lang/String;Lcom/example/lockline/lockline/Contender$Kind;J)V"⟩ : MethodName) prog_1_method_1_code 5 none :: ws) ({ frames := 2, cells := 0, slots := 0, locals := 24 } : Room)) (fun as_ U => as_ = #[(.ref a), (.ref s1), (.ref kk_), (.long sq1)] ∧ Z.Warmed39 U.vm ∧ U.heap = h0) (fun _ _ _ _ _ => True) (fun _ U oo_ U' => ∃ vv_ LL_, oo_ = .returned vv_ ∧ QCtI Z a s1 kk_ sq1 h0 n0 vv_ U'.heap LL_ ∧ FrameEnd U oo_ U' LL_ ({ frames := 2, cells := 0, slots := 0, locals := 24 } : Room).cells ({ frames := 2, cells := 0, slots := 0, locals := 24 } : Room).slots) := by
  refine MetFree.of_bodySF (plainFor_of_name pn_4) hisR ?_
  intro p e s m args below meth c s₁ Bd hml0 hP hK
  obtain ⟨rfl, hZ, hh⟩ := hP
  have hx := Bd.exec
  have hby := Bd.bytes
  have hml : c.maxLocals = 5 := hml0
  have hown : s.vm.findClass "com/example/lockline/lockline/Contender" = some m.cls := findClass_of_methodNamed Bd.named
  have hnm := (name_of_methodNamed Bd.named Bd.method).1
  have X0 : Stand p l e ({ frames := 2, cells := 0, slots := 0, locals := 24 } : Room) s m #[(.ref a), (.ref s1), (.ref kk_), (.long sq1)] below meth c s₁ [] 0 0 := Stand.of_body Bd
  have e0 : s₁.heap = h0 := by rw [← hh, Bd.state]; rfl
  have N := Fr.nil n0
  have K : Keep h0 h0 [a] := Keep.refl h0 _
  refine own_go (B := s₁.setTop (mkF m 0 #[.val (.ref a), .val (.ref s1), .val (.ref kk_), .val (.long sq1), .second] [])) (fun t k => castTop (ef_CtI m a s1 kk_ sq1) k) ?_
  refine own_abs (fun P hfin => ?_)
  refine own_go (B := s₁.setTop (mkF m 1 #[.val (.ref a), .val (.ref s1), .val (.ref kk_), .val (.long sq1), .second] [(.ref a)])) (fun t k => ?_) ?_
  · show Steps p.tables e below (s₁.setTop (mkF m 0 #[.val (.ref a), .val (.ref s1), .val (.ref kk_), .val (.long sq1), .second] [])) _
    refine XS.aloadN X0.here hx rfl (hb hby d_prog_1_method_1_0) rfl rfl ?_
    show Steps p.tables e below (s₁.setTop (mkF m 1 #[.val (.ref a), .val (.ref s1), .val (.ref kk_), .val (.long sq1), .second] [(.ref a)])) _
    exact k
  -- pc 1: java/lang/Record.<init>
  obtain ⟨_, _, ⟨T1, L1, k1, n1⟩, -, X1, ⟨Lc1, hQ1, l1, y1, z1⟩, st1⟩ := X0.specialBack hx (y := (⟨"java/lang/Record", "<init>", "()V"⟩ : MethodName)) rfl hown (mvT hZ (hw _ (List.mem_of_getElem? (i := 35) rfl))) (mvT hZ (hw _ (List.mem_of_getElem? (i := 36) rfl))) (mvT hZ (hw _ (List.mem_of_getElem? (i := 39) rfl))) (by decide) (backOf (W := 0) (rmRec l Z a0 hw [] a h0 n0 O ) hZ (hw _ (List.mem_of_getElem? (i := 39) rfl)) (hw _ (List.mem_of_getElem? (i := 38) rfl)) (by decide) (by decide)) (g := (mkF m 1 #[.val (.ref a), .val (.ref s1), .val (.ref kk_), .val (.long sq1), .second] [(.ref a)])) rfl (by rw [hml]; rfl) (Steps.refl _) (a := a) (argsL := []) (rest := []) (lenOf pd_13 rfl) rfl (by show 2 * 0 + _ ≤ _; exact Nat.le_of_eq rfl) (hb hby d_prog_1_method_1_1) (fun _ hWm => ⟨rfl, e0, (by decide : 0 + 0 ≤ _), (by decide : 0 + 0 ≤ _)⟩)
  dsimp only [Pt.U, Pt.locs, Pt.cells, Pt.slots] at X1 l1 y1 z1 st1 hQ1
  subst l1 y1 z1
  obtain ⟨rfl, Nq1, Kq1⟩ := hQ1
  replace N := Fr.app N Nq1
  refine own_go (B := T1.setTop (mkF m 4 #[.val (.ref a), .val (.ref s1), .val (.ref kk_), .val (.long sq1), .second] [])) (fun t k => st1.trans k) ?_
  refine own_go (B := T1.setTop (mkF m 6 #[.val (.ref a), .val (.ref s1), .val (.ref kk_), .val (.long sq1), .second] [(.ref s1), (.ref a)])) (fun t k => ?_) ?_
  · show Steps p.tables e below (T1.setTop (mkF m 4 #[.val (.ref a), .val (.ref s1), .val (.ref kk_), .val (.long sq1), .second] [])) _
    refine XS.aloadN X1.here hx rfl (hb hby d_prog_1_method_1_4) rfl rfl ?_
    show Steps p.tables e below (T1.setTop (mkF m 5 #[.val (.ref a), .val (.ref s1), .val (.ref kk_), .val (.long sq1), .second] [(.ref a)])) _
    refine XS.aloadN X1.here hx rfl (hb hby d_prog_1_method_1_5) rfl rfl ?_
    show Steps p.tables e below (T1.setTop (mkF m 6 #[.val (.ref a), .val (.ref s1), .val (.ref kk_), .val (.long sq1), .second] [(.ref s1), (.ref a)])) _
    exact k
  obtain ⟨T2, h2, X2, e2, W2, st2⟩ := putF X1 hx hZ hown (host := "") (Or.inl (hw _ (List.mem_of_getElem? (i := 41) rfl))) Via.refl Kq1 F1 E (Or.inr ⟨(hw _ (List.mem_of_getElem? (i := 42) rfl)), rfl, hnm⟩) (hw _ (List.mem_of_getElem? (i := 4) rfl)) (ty := (.object "java/lang/String")) (by decide) rfl rfl (g := (mkF m 6 #[.val (.ref a), .val (.ref s1), .val (.ref kk_), .val (.long sq1), .second] [(.ref s1), (.ref a)])) rfl rfl (hb hby d_prog_1_method_1_6)
  have Fw2 := F1.same W2
  replace E := E.wr W2
  clear F1
  replace F2 := F2.other W2 (Or.inr (slot_ne (Or.inr (hw _ (List.mem_of_getElem? (i := 44) rfl))) (Or.inr (hw _ (List.mem_of_getElem? (i := 42) rfl))) (by decide) (t := (.object "com/example/lockline/lockline/Contender$Kind")) (t' := (.object "java/lang/String")) (by decide) (by decide)))
  replace F3 := F3.other W2 (Or.inr (slot_ne (Or.inr (hw _ (List.mem_of_getElem? (i := 46) rfl))) (Or.inr (hw _ (List.mem_of_getElem? (i := 42) rfl))) (by decide) (t := .long) (t' := (.object "java/lang/String")) (by decide) (by decide)))
  replace O := O.wr W2 ga
  replace K := K.wr W2 (Or.inl (List.mem_of_getElem? (i := 0) rfl))
  replace N := Fr.snoc X2 N ga
  refine own_go (B := T2.setTop (mkF m 9 #[.val (.ref a), .val (.ref s1), .val (.ref kk_), .val (.long sq1), .second] [])) st2 ?_
  refine own_go (B := T2.setTop (mkF m 11 #[.val (.ref a), .val (.ref s1), .val (.ref kk_), .val (.long sq1), .second] [(.ref kk_), (.ref a)])) (fun t k => ?_) ?_
  · show Steps p.tables e below (T2.setTop (mkF m 9 #[.val (.ref a), .val (.ref s1), .val (.ref kk_), .val (.long sq1), .second] [])) _
    refine XS.aloadN X2.here hx rfl (hb hby d_prog_1_method_1_9) rfl rfl ?_
    show Steps p.tables e below (T2.setTop (mkF m 10 #[.val (.ref a), .val (.ref s1), .val (.ref kk_), .val (.long sq1), .second] [(.ref a)])) _
    refine XS.aloadN X2.here hx rfl (hb hby d_prog_1_method_1_10) rfl rfl ?_
    show Steps p.tables e below (T2.setTop (mkF m 11 #[.val (.ref a), .val (.ref s1), .val (.ref kk_), .val (.long sq1), .second] [(.ref kk_), (.ref a)])) _
    exact k
  obtain ⟨T3, h3, X3, e3, W3, st3⟩ := putF X2 hx hZ hown (host := "") (Or.inl (hw _ (List.mem_of_getElem? (i := 43) rfl))) Via.refl e2 F2 E (Or.inr ⟨(hw _ (List.mem_of_getElem? (i := 44) rfl)), rfl, hnm⟩) (hw _ (List.mem_of_getElem? (i := 4) rfl)) (ty := (.object "com/example/lockline/lockline/Contender$Kind")) (by decide) rfl rfl (g := (mkF m 11 #[.val (.ref a), .val (.ref s1), .val (.ref kk_), .val (.long sq1), .second] [(.ref kk_), (.ref a)])) rfl rfl (hb hby d_prog_1_method_1_11)
  have Fw3 := F2.same W3
  replace E := E.wr W3
  clear F2
  replace F3 := F3.other W3 (Or.inr (slot_ne (Or.inr (hw _ (List.mem_of_getElem? (i := 46) rfl))) (Or.inr (hw _ (List.mem_of_getElem? (i := 44) rfl))) (by decide) (t := .long) (t' := (.object "com/example/lockline/lockline/Contender$Kind")) (by decide) (by decide)))
  replace Fw2 := Fw2.other W3 (Or.inr (slot_ne (Or.inr (hw _ (List.mem_of_getElem? (i := 42) rfl))) (Or.inr (hw _ (List.mem_of_getElem? (i := 44) rfl))) (by decide) (t := (.object "java/lang/String")) (t' := (.object "com/example/lockline/lockline/Contender$Kind")) (by decide) (by decide)))
  replace O := O.wr W3 ga
  replace K := K.wr W3 (Or.inl (List.mem_of_getElem? (i := 0) rfl))
  replace N := Fr.snoc X3 N ga
  refine own_go (B := T3.setTop (mkF m 14 #[.val (.ref a), .val (.ref s1), .val (.ref kk_), .val (.long sq1), .second] [])) st3 ?_
  refine own_go (B := T3.setTop (mkF m 16 #[.val (.ref a), .val (.ref s1), .val (.ref kk_), .val (.long sq1), .second] [(.long sq1), (.ref a)])) (fun t k => ?_) ?_
  · show Steps p.tables e below (T3.setTop (mkF m 14 #[.val (.ref a), .val (.ref s1), .val (.ref kk_), .val (.long sq1), .second] [])) _
    refine XS.aloadN X3.here hx rfl (hb hby d_prog_1_method_1_14) rfl rfl ?_
    show Steps p.tables e below (T3.setTop (mkF m 15 #[.val (.ref a), .val (.ref s1), .val (.ref kk_), .val (.long sq1), .second] [(.ref a)])) _
    refine XS.lloadN X3.here hx rfl (hb hby d_prog_1_method_1_15) rfl ?_
    show Steps p.tables e below (T3.setTop (mkF m 16 #[.val (.ref a), .val (.ref s1), .val (.ref kk_), .val (.long sq1), .second] [(.long sq1), (.ref a)])) _
    exact k
  obtain ⟨T4, h4, X4, e4, W4, st4⟩ := putF X3 hx hZ hown (host := "") (Or.inl (hw _ (List.mem_of_getElem? (i := 45) rfl))) Via.refl e3 F3 E (Or.inr ⟨(hw _ (List.mem_of_getElem? (i := 46) rfl)), rfl, hnm⟩) (hw _ (List.mem_of_getElem? (i := 4) rfl)) (ty := .long) (by decide) rfl rfl (g := (mkF m 16 #[.val (.ref a), .val (.ref s1), .val (.ref kk_), .val (.long sq1), .second] [(.long sq1), (.ref a)])) rfl rfl (hb hby d_prog_1_method_1_16)
  have Fw4 := F3.same W4
  replace E := E.wr W4
  clear F3
  replace Fw2 := Fw2.other W4 (Or.inr (slot_ne (Or.inr (hw _ (List.mem_of_getElem? (i := 42) rfl))) (Or.inr (hw _ (List.mem_of_getElem? (i := 46) rfl))) (by decide) (t := (.object "java/lang/String")) (t' := .long) (by decide) (by decide)))
  replace Fw3 := Fw3.other W4 (Or.inr (slot_ne (Or.inr (hw _ (List.mem_of_getElem? (i := 44) rfl))) (Or.inr (hw _ (List.mem_of_getElem? (i := 46) rfl))) (by decide) (t := (.object "com/example/lockline/lockline/Contender$Kind")) (t' := .long) (by decide) (by decide)))
  replace O := O.wr W4 ga
  replace K := K.wr W4 (Or.inl (List.mem_of_getElem? (i := 0) rfl))
  replace N := Fr.snoc X4 N ga
  refine own_go (B := T4.setTop (mkF m 19 #[.val (.ref a), .val (.ref s1), .val (.ref kk_), .val (.long sq1), .second] [])) st4 ?_
  obtain ⟨fs, hr, hrun, hended, hW, hsame⟩ := X4.leave (v := none) (fun _ => rfl)
  refine ⟨_, _, X4.returnOut hx Bd.returns (hb hby d_prog_1_method_1_19) hr, hfin _ _ ⟨hrun, hended, _, _, rfl, ?_, ⟨_, rfl⟩, hW, hsame.mono (by decide) (by decide)⟩⟩
  show QCtI Z a s1 kk_ sq1 h0 n0 _ T4.heap _
  rw [e4]
  exact ⟨rfl, N, K, Fw2, Fw4⟩
def Q0 (Z : State) (p1 : Int64) (p2 : Int64) (p3 : Int32) (p4 : Int32) (p5 : Int32) (wR : Addr) (wW : Addr) (zc : Int32) (h0 : Heap) (n0 : Nat) (v : Option Value) (h : Heap) (L : List Loc) : Prop := v = some (.int 1) ∧ Fr n0 L
theorem ef_0 (m : MethodId) (p1 : Int64) (p2 : Int64) (p3 : Int32) (p4 : Int32) (p5 : Int32) : entryFrame m #[(.long p1), (.long p2), (.int p3), (.int p4), (.int p5)] maxLocals = mkF m 0 #[.val (.long p1), .second, .val (.long p2), .second, .val (.int p3), .val (.int p4), .val (.int p5), .unset, .unset, .unset, .unset, .unset, .unset, .unset, .unset, .unset, .unset, .unset, .unset, .unset, .unset, .unset, .unset] [] := by first | (simp [entryFrame, mkF, argsToLocals, Value.category, maxLocals]; done) | rfl | (rfl)
set_option maxRecDepth 65536 in
set_option maxHeartbeats 40000000 in
theorem rm0 (l : Launch) (Z : State) (a0 : Array Value) (hw : ∀ d ∈ tables_1, d.before a0 Z = true) (ws : List Jvm.Cond) (p1 : Int64) (p2 : Int64) (p3 : Int32) (p4 : Int32) (p5 : Int32) (wR : Addr) (wW : Addr) (zc : Int32) (h0 : Heap) (n0 : Nat) (O : Old Z n0 h0) (S_R : Sta Z Z.heap "com/example/lockline/lockline/Contender$Kind" "READ" "Lcom/example/lockline/lockline/Contender$Kind;" (.ref wR)) (S_W : Sta Z Z.heap "com/example/lockline/lockline/Contender$Kind" "WRITE" "Lcom/example/lockline/lockline/Contender$Kind;" (.ref wW)) (S_C : Sta Z Z.heap "java/lang/String" "COMPACT_STRINGS" "Z" (.int zc)) (hcs : ¬ zc = (0 : Int32)) (hcH : Jvm.Lit.constHeld Z "java/lang/String" 7) (hcw : Jvm.Lit.compactW.before a0 Z = true) :
    MetFree l x (head1 (Jvm.Cond.code x code maxLocals ret :: ws) room_1) (fun as_ U => as_ = #[(.long p1), (.long p2), (.int p3), (.int p4), (.int p5)] ∧ Z.Warmed39 U.vm ∧ U.heap = h0 ∧ Em Z U.vm h0) (fun _ _ _ _ _ => True) (fun _ U oo_ U' => ∃ vv_ LL_, oo_ = .returned vv_ ∧ Q0 Z p1 p2 p3 p4 p5 wR wW zc h0 n0 vv_ U'.heap LL_ ∧ ReturnedEndW U oo_ U' LL_ room_1.cells room_1.slots) := by
  refine MetFree.of_bodySF (plainFor_of_name pn_5) hisR ?_
  intro p e s m args below meth c s₁ Bd hml0 hP hK
  obtain ⟨rfl, hZ, hh, M⟩ := hP
  have hx := Bd.exec
  have hby := Bd.bytes
  have hml : c.maxLocals = 23 := hml0
  have hown : s.vm.findClass "com/example/lockline/lockline/ContenderIsAheadOfPinLaw" = some m.cls := findClass_of_methodNamed Bd.named
  have hnm := (name_of_methodNamed Bd.named Bd.method).1
  have X0 : Stand p l e room_1 (s.setVm s.vm) m #[(.long p1), (.long p2), (.int p3), (.int p4), (.int p5)] below meth c s₁ [] 0 0 := Stand.of_body Bd
  have e0 : s₁.heap = h0 := by rw [← hh, Bd.state]; rfl
  have N := Fr.nil n0
  have hown : (s.setVm s.vm).vm.findClass "com/example/lockline/lockline/ContenderIsAheadOfPinLaw" = some m.cls := hown
  have hZ : Z.Warmed39 (s.setVm s.vm).vm := hZ
  have hS : s.Since s.vm h0.size := (State.WarmedH.refl s).since _
  have hk : h0.size ≤ h0.size := Nat.le_refl _
  refine own_go (B := s₁.setTop (mkF m 0 #[.val (.long p1), .second, .val (.long p2), .second, .val (.int p3), .val (.int p4), .val (.int p5), .unset, .unset, .unset, .unset, .unset, .unset, .unset, .unset, .unset, .unset, .unset, .unset, .unset, .unset, .unset, .unset] [])) (fun t k => castTop (ef_0 m p1 p2 p3 p4 p5) k) ?_
  have KM : Keep h0 h0 [] := Keep.refl h0 _
  refine own_abs (fun P hfin => ?_)
  refine own_go (B := s₁.setTop (mkF m 4 #[.val (.long p1), .second, .val (.long p2), .second, .val (.int p3), .val (.int p4), .val (.int p5), .unset, .unset, .unset, .unset, .unset, .unset, .unset, .unset, .unset, .unset, .unset, .unset, .unset, .unset, .unset, .unset] [(.int (p5 &&& (2 : Int32)))])) (fun t k => ?_) ?_
  · show Steps p.tables e below (s₁.setTop (mkF m 0 #[.val (.long p1), .second, .val (.long p2), .second, .val (.int p3), .val (.int p4), .val (.int p5), .unset, .unset, .unset, .unset, .unset, .unset, .unset, .unset, .unset, .unset, .unset, .unset, .unset, .unset, .unset, .unset] [])) _
    refine XS.iload X0.here hx rfl (hb hby at_0) rfl ?_
    show Steps p.tables e below (s₁.setTop (mkF m 2 #[.val (.long p1), .second, .val (.long p2), .second, .val (.int p3), .val (.int p4), .val (.int p5), .unset, .unset, .unset, .unset, .unset, .unset, .unset, .unset, .unset, .unset, .unset, .unset, .unset, .unset, .unset, .unset] [(.int p5)])) _
    refine XS.iconst X0.here hx rfl (hb hby at_2) ?_
    show Steps p.tables e below (s₁.setTop (mkF m 3 #[.val (.long p1), .second, .val (.long p2), .second, .val (.int p3), .val (.int p4), .val (.int p5), .unset, .unset, .unset, .unset, .unset, .unset, .unset, .unset, .unset, .unset, .unset, .unset, .unset, .unset, .unset, .unset] [(.int (2 : Int32)), (.int p5)])) _
    refine XS.iand X0.here hx rfl (hb hby at_3) rfl ?_
    show Steps p.tables e below (s₁.setTop (mkF m 4 #[.val (.long p1), .second, .val (.long p2), .second, .val (.int p3), .val (.int p4), .val (.int p5), .unset, .unset, .unset, .unset, .unset, .unset, .unset, .unset, .unset, .unset, .unset, .unset, .unset, .unset, .unset, .unset] [(.int (p5 &&& (2 : Int32)))])) _
    exact k
  obtain ⟨sb, hsb⟩ : ∃ z : Int64, z = (if (p5 &&& (2 : Int32)) = (0 : Int32) then p2 else p1) := ⟨_, rfl⟩
  refine own_go (B := s₁.setTop (mkF m 12 #[.val (.long p1), .second, .val (.long p2), .second, .val (.int p3), .val (.int p4), .val (.int p5), .unset, .unset, .unset, .unset, .unset, .unset, .unset, .unset, .unset, .unset, .unset, .unset, .unset, .unset, .unset, .unset] [(.long sb)])) (fun t k => ?_) ?_
  · skip
    show Steps p.tables e below (s₁.setTop (mkF m 4 #[.val (.long p1), .second, .val (.long p2), .second, .val (.int p3), .val (.int p4), .val (.int p5), .unset, .unset, .unset, .unset, .unset, .unset, .unset, .unset, .unset, .unset, .unset, .unset, .unset, .unset, .unset, .unset] [(.int (p5 &&& (2 : Int32)))])) _
    by_cases hm4 : (p5 &&& (2 : Int32)) = (0 : Int32)
    · skip
      simp only [if_pos hm4] at hsb
      rw [hsb] at k
      show Steps p.tables e below (s₁.setTop (mkF m 4 #[.val (.long p1), .second, .val (.long p2), .second, .val (.int p3), .val (.int p4), .val (.int p5), .unset, .unset, .unset, .unset, .unset, .unset, .unset, .unset, .unset, .unset, .unset, .unset, .unset, .unset, .unset, .unset] [(.int (p5 &&& (2 : Int32)))])) _
      refine XS.ifYes X0.here hx rfl (pc0 := 4) (pc' := 11) rfl (hb hby at_4) rfl ((if0 _ _).trans (teq hm4).1) (by decide) (by decide) ?_
      show Steps p.tables e below (s₁.setTop (mkF m 11 #[.val (.long p1), .second, .val (.long p2), .second, .val (.int p3), .val (.int p4), .val (.int p5), .unset, .unset, .unset, .unset, .unset, .unset, .unset, .unset, .unset, .unset, .unset, .unset, .unset, .unset, .unset, .unset] [])) _
      refine XS.lloadN X0.here hx rfl (hb hby at_11) rfl ?_
      show Steps p.tables e below (s₁.setTop (mkF m 12 #[.val (.long p1), .second, .val (.long p2), .second, .val (.int p3), .val (.int p4), .val (.int p5), .unset, .unset, .unset, .unset, .unset, .unset, .unset, .unset, .unset, .unset, .unset, .unset, .unset, .unset, .unset, .unset] [(.long p2)])) _
      exact k
    · skip
      simp only [if_neg hm4] at hsb
      rw [hsb] at k
      show Steps p.tables e below (s₁.setTop (mkF m 4 #[.val (.long p1), .second, .val (.long p2), .second, .val (.int p3), .val (.int p4), .val (.int p5), .unset, .unset, .unset, .unset, .unset, .unset, .unset, .unset, .unset, .unset, .unset, .unset, .unset, .unset, .unset, .unset] [(.int (p5 &&& (2 : Int32)))])) _
      refine XS.ifNo X0.here hx rfl (hb hby at_4) rfl ((if0 _ _).trans (feq hm4).1) ?_
      show Steps p.tables e below (s₁.setTop (mkF m 7 #[.val (.long p1), .second, .val (.long p2), .second, .val (.int p3), .val (.int p4), .val (.int p5), .unset, .unset, .unset, .unset, .unset, .unset, .unset, .unset, .unset, .unset, .unset, .unset, .unset, .unset, .unset, .unset] [])) _
      refine XS.lloadN X0.here hx rfl (hb hby at_7) rfl ?_
      show Steps p.tables e below (s₁.setTop (mkF m 8 #[.val (.long p1), .second, .val (.long p2), .second, .val (.int p3), .val (.int p4), .val (.int p5), .unset, .unset, .unset, .unset, .unset, .unset, .unset, .unset, .unset, .unset, .unset, .unset, .unset, .unset, .unset, .unset] [(.long p1)])) _
      refine XS.goto X0.here hx rfl (pc0 := 8) (pc' := 12) rfl (hb hby at_8) (by decide) (by decide) ?_
      show Steps p.tables e below (s₁.setTop (mkF m 12 #[.val (.long p1), .second, .val (.long p2), .second, .val (.int p3), .val (.int p4), .val (.int p5), .unset, .unset, .unset, .unset, .unset, .unset, .unset, .unset, .unset, .unset, .unset, .unset, .unset, .unset, .unset, .unset] [(.long p1)])) _
      exact k
  refine own_go (B := s₁.setTop (mkF m 22 #[.val (.long p1), .second, .val (.long p2), .second, .val (.int p3), .val (.int p4), .val (.int p5), .val (.long sb), .second, .val (.int ((p3 &&& (3 : Int32)) % (3 : Int32))), .unset, .unset, .unset, .unset, .unset, .unset, .unset, .unset, .unset, .unset, .unset, .unset, .unset] [])) (fun t k => ?_) ?_
  · show Steps p.tables e below (s₁.setTop (mkF m 12 #[.val (.long p1), .second, .val (.long p2), .second, .val (.int p3), .val (.int p4), .val (.int p5), .unset, .unset, .unset, .unset, .unset, .unset, .unset, .unset, .unset, .unset, .unset, .unset, .unset, .unset, .unset, .unset] [(.long sb)])) _
    refine XS.lstore X0.here hx rfl (hb hby at_12) rfl (l' := #[.val (.long p1), .second, .val (.long p2), .second, .val (.int p3), .val (.int p4), .val (.int p5), .val (.long sb), .second, .unset, .unset, .unset, .unset, .unset, .unset, .unset, .unset, .unset, .unset, .unset, .unset, .unset, .unset]) rfl ?_
    show Steps p.tables e below (s₁.setTop (mkF m 14 #[.val (.long p1), .second, .val (.long p2), .second, .val (.int p3), .val (.int p4), .val (.int p5), .val (.long sb), .second, .unset, .unset, .unset, .unset, .unset, .unset, .unset, .unset, .unset, .unset, .unset, .unset, .unset, .unset] [])) _
    refine XS.iload X0.here hx rfl (hb hby at_14) rfl ?_
    show Steps p.tables e below (s₁.setTop (mkF m 16 #[.val (.long p1), .second, .val (.long p2), .second, .val (.int p3), .val (.int p4), .val (.int p5), .val (.long sb), .second, .unset, .unset, .unset, .unset, .unset, .unset, .unset, .unset, .unset, .unset, .unset, .unset, .unset, .unset] [(.int p3)])) _
    refine XS.iconst X0.here hx rfl (hb hby at_16) ?_
    show Steps p.tables e below (s₁.setTop (mkF m 17 #[.val (.long p1), .second, .val (.long p2), .second, .val (.int p3), .val (.int p4), .val (.int p5), .val (.long sb), .second, .unset, .unset, .unset, .unset, .unset, .unset, .unset, .unset, .unset, .unset, .unset, .unset, .unset, .unset] [(.int (3 : Int32)), (.int p3)])) _
    refine XS.iand X0.here hx rfl (hb hby at_17) rfl ?_
    show Steps p.tables e below (s₁.setTop (mkF m 18 #[.val (.long p1), .second, .val (.long p2), .second, .val (.int p3), .val (.int p4), .val (.int p5), .val (.long sb), .second, .unset, .unset, .unset, .unset, .unset, .unset, .unset, .unset, .unset, .unset, .unset, .unset, .unset, .unset] [(.int (p3 &&& (3 : Int32)))])) _
    refine XS.iconst X0.here hx rfl (hb hby at_18) ?_
    show Steps p.tables e below (s₁.setTop (mkF m 19 #[.val (.long p1), .second, .val (.long p2), .second, .val (.int p3), .val (.int p4), .val (.int p5), .val (.long sb), .second, .unset, .unset, .unset, .unset, .unset, .unset, .unset, .unset, .unset, .unset, .unset, .unset, .unset, .unset] [(.int (3 : Int32)), (.int (p3 &&& (3 : Int32)))])) _
    refine Jvm.RoadKit.iremM (g := (mkF m 19 #[.val (.long p1), .second, .val (.long p2), .second, .val (.int p3), .val (.int p4), .val (.int p5), .val (.long sb), .second, .unset, .unset, .unset, .unset, .unset, .unset, .unset, .unset, .unset, .unset, .unset, .unset, .unset, .unset] [(.int (3 : Int32)), (.int (p3 &&& (3 : Int32)))])) X0 hx rfl (hb hby at_19) rfl (by decide) ?_
    show Steps p.tables e below (s₁.setTop (mkF m 20 #[.val (.long p1), .second, .val (.long p2), .second, .val (.int p3), .val (.int p4), .val (.int p5), .val (.long sb), .second, .unset, .unset, .unset, .unset, .unset, .unset, .unset, .unset, .unset, .unset, .unset, .unset, .unset, .unset] [(.int ((p3 &&& (3 : Int32)) % (3 : Int32)))])) _
    refine XS.istore X0.here hx rfl (hb hby at_20) rfl (l' := #[.val (.long p1), .second, .val (.long p2), .second, .val (.int p3), .val (.int p4), .val (.int p5), .val (.long sb), .second, .val (.int ((p3 &&& (3 : Int32)) % (3 : Int32))), .unset, .unset, .unset, .unset, .unset, .unset, .unset, .unset, .unset, .unset, .unset, .unset, .unset]) rfl ?_
    show Steps p.tables e below (s₁.setTop (mkF m 22 #[.val (.long p1), .second, .val (.long p2), .second, .val (.int p3), .val (.int p4), .val (.int p5), .val (.long sb), .second, .val (.int ((p3 &&& (3 : Int32)) % (3 : Int32))), .unset, .unset, .unset, .unset, .unset, .unset, .unset, .unset, .unset, .unset, .unset, .unset, .unset] [])) _
    exact k
  obtain ⟨la, hla⟩ : ∃ z : Int32, z = ((p3 &&& (3 : Int32)) % (3 : Int32)) := ⟨_, rfl⟩
  rw [← hla]
  have bla : la = (0 : Int32) ∨ la = (1 : Int32) ∨ la = (2 : Int32) := by rw [hla]; exact own_len3 _
  refine own_go (B := s₁.setTop (mkF m 31 #[.val (.long p1), .second, .val (.long p2), .second, .val (.int p3), .val (.int p4), .val (.int p5), .val (.long sb), .second, .val (.int la), .unset, .unset, .unset, .unset, .unset, .unset, .unset, .unset, .unset, .unset, .unset, .unset, .unset] [(.int ((((p3.toUInt32 >>> ((2 : Int32) &&& 31).toUInt32).toInt32) &&& (255 : Int32)).toUInt32.toUInt16.toUInt32.toInt32))])) (fun t k => ?_) ?_
  · show Steps p.tables e below (s₁.setTop (mkF m 22 #[.val (.long p1), .second, .val (.long p2), .second, .val (.int p3), .val (.int p4), .val (.int p5), .val (.long sb), .second, .val (.int la), .unset, .unset, .unset, .unset, .unset, .unset, .unset, .unset, .unset, .unset, .unset, .unset, .unset] [])) _
    refine XS.iload X0.here hx rfl (hb hby at_22) rfl ?_
    show Steps p.tables e below (s₁.setTop (mkF m 24 #[.val (.long p1), .second, .val (.long p2), .second, .val (.int p3), .val (.int p4), .val (.int p5), .val (.long sb), .second, .val (.int la), .unset, .unset, .unset, .unset, .unset, .unset, .unset, .unset, .unset, .unset, .unset, .unset, .unset] [(.int p3)])) _
    refine XS.iconst X0.here hx rfl (hb hby at_24) ?_
    show Steps p.tables e below (s₁.setTop (mkF m 25 #[.val (.long p1), .second, .val (.long p2), .second, .val (.int p3), .val (.int p4), .val (.int p5), .val (.long sb), .second, .val (.int la), .unset, .unset, .unset, .unset, .unset, .unset, .unset, .unset, .unset, .unset, .unset, .unset, .unset] [(.int (2 : Int32)), (.int p3)])) _
    refine XS.iushr X0.here hx rfl (hb hby at_25) rfl ?_
    show Steps p.tables e below (s₁.setTop (mkF m 26 #[.val (.long p1), .second, .val (.long p2), .second, .val (.int p3), .val (.int p4), .val (.int p5), .val (.long sb), .second, .val (.int la), .unset, .unset, .unset, .unset, .unset, .unset, .unset, .unset, .unset, .unset, .unset, .unset, .unset] [(.int ((p3.toUInt32 >>> ((2 : Int32) &&& 31).toUInt32).toInt32))])) _
    refine XS.sipush X0.here hx rfl (hb hby at_26) ?_
    show Steps p.tables e below (s₁.setTop (mkF m 29 #[.val (.long p1), .second, .val (.long p2), .second, .val (.int p3), .val (.int p4), .val (.int p5), .val (.long sb), .second, .val (.int la), .unset, .unset, .unset, .unset, .unset, .unset, .unset, .unset, .unset, .unset, .unset, .unset, .unset] [(.int (255 : Int32)), (.int ((p3.toUInt32 >>> ((2 : Int32) &&& 31).toUInt32).toInt32))])) _
    refine XS.iand X0.here hx rfl (hb hby at_29) rfl ?_
    show Steps p.tables e below (s₁.setTop (mkF m 30 #[.val (.long p1), .second, .val (.long p2), .second, .val (.int p3), .val (.int p4), .val (.int p5), .val (.long sb), .second, .val (.int la), .unset, .unset, .unset, .unset, .unset, .unset, .unset, .unset, .unset, .unset, .unset, .unset, .unset] [(.int (((p3.toUInt32 >>> ((2 : Int32) &&& 31).toUInt32).toInt32) &&& (255 : Int32)))])) _
    refine XS.i2c X0.here hx rfl (hb hby at_30) rfl ?_
    show Steps p.tables e below (s₁.setTop (mkF m 31 #[.val (.long p1), .second, .val (.long p2), .second, .val (.int p3), .val (.int p4), .val (.int p5), .val (.long sb), .second, .val (.int la), .unset, .unset, .unset, .unset, .unset, .unset, .unset, .unset, .unset, .unset, .unset, .unset, .unset] [(.int ((((p3.toUInt32 >>> ((2 : Int32) &&& 31).toUInt32).toInt32) &&& (255 : Int32)).toUInt32.toUInt16.toUInt32.toInt32))])) _
    exact k
  rw [i2c_mask]
  obtain ⟨a0_, ha0_⟩ : ∃ z : Int32, z = (((p3.toUInt32 >>> ((2 : Int32) &&& 31).toUInt32).toInt32) &&& (255 : Int32)) := ⟨_, rfl⟩
  rw [← ha0_]
  have ba0_ : ¬ a0_ < 0 ∧ ¬ (255 : Int32) < a0_ := by rw [ha0_]; exact own_b255 _
  have ca0_ : nar .char a0_ = a0_ := by rw [ha0_]; exact i2c_mask _
  refine own_go (B := s₁.setTop (mkF m 43 #[.val (.long p1), .second, .val (.long p2), .second, .val (.int p3), .val (.int p4), .val (.int p5), .val (.long sb), .second, .val (.int la), .val (.int a0_), .unset, .unset, .unset, .unset, .unset, .unset, .unset, .unset, .unset, .unset, .unset, .unset] [(.int ((((p3.toUInt32 >>> ((10 : Int32) &&& 31).toUInt32).toInt32) &&& (255 : Int32)).toUInt32.toUInt16.toUInt32.toInt32))])) (fun t k => ?_) ?_
  · show Steps p.tables e below (s₁.setTop (mkF m 31 #[.val (.long p1), .second, .val (.long p2), .second, .val (.int p3), .val (.int p4), .val (.int p5), .val (.long sb), .second, .val (.int la), .unset, .unset, .unset, .unset, .unset, .unset, .unset, .unset, .unset, .unset, .unset, .unset, .unset] [(.int a0_)])) _
    refine XS.istore X0.here hx rfl (hb hby at_31) rfl (l' := #[.val (.long p1), .second, .val (.long p2), .second, .val (.int p3), .val (.int p4), .val (.int p5), .val (.long sb), .second, .val (.int la), .val (.int a0_), .unset, .unset, .unset, .unset, .unset, .unset, .unset, .unset, .unset, .unset, .unset, .unset]) rfl ?_
    show Steps p.tables e below (s₁.setTop (mkF m 33 #[.val (.long p1), .second, .val (.long p2), .second, .val (.int p3), .val (.int p4), .val (.int p5), .val (.long sb), .second, .val (.int la), .val (.int a0_), .unset, .unset, .unset, .unset, .unset, .unset, .unset, .unset, .unset, .unset, .unset, .unset] [])) _
    refine XS.iload X0.here hx rfl (hb hby at_33) rfl ?_
    show Steps p.tables e below (s₁.setTop (mkF m 35 #[.val (.long p1), .second, .val (.long p2), .second, .val (.int p3), .val (.int p4), .val (.int p5), .val (.long sb), .second, .val (.int la), .val (.int a0_), .unset, .unset, .unset, .unset, .unset, .unset, .unset, .unset, .unset, .unset, .unset, .unset] [(.int p3)])) _
    refine XS.bipush X0.here hx rfl (hb hby at_35) ?_
    show Steps p.tables e below (s₁.setTop (mkF m 37 #[.val (.long p1), .second, .val (.long p2), .second, .val (.int p3), .val (.int p4), .val (.int p5), .val (.long sb), .second, .val (.int la), .val (.int a0_), .unset, .unset, .unset, .unset, .unset, .unset, .unset, .unset, .unset, .unset, .unset, .unset] [(.int (10 : Int32)), (.int p3)])) _
    refine XS.iushr X0.here hx rfl (hb hby at_37) rfl ?_
    show Steps p.tables e below (s₁.setTop (mkF m 38 #[.val (.long p1), .second, .val (.long p2), .second, .val (.int p3), .val (.int p4), .val (.int p5), .val (.long sb), .second, .val (.int la), .val (.int a0_), .unset, .unset, .unset, .unset, .unset, .unset, .unset, .unset, .unset, .unset, .unset, .unset] [(.int ((p3.toUInt32 >>> ((10 : Int32) &&& 31).toUInt32).toInt32))])) _
    refine XS.sipush X0.here hx rfl (hb hby at_38) ?_
    show Steps p.tables e below (s₁.setTop (mkF m 41 #[.val (.long p1), .second, .val (.long p2), .second, .val (.int p3), .val (.int p4), .val (.int p5), .val (.long sb), .second, .val (.int la), .val (.int a0_), .unset, .unset, .unset, .unset, .unset, .unset, .unset, .unset, .unset, .unset, .unset, .unset] [(.int (255 : Int32)), (.int ((p3.toUInt32 >>> ((10 : Int32) &&& 31).toUInt32).toInt32))])) _
    refine XS.iand X0.here hx rfl (hb hby at_41) rfl ?_
    show Steps p.tables e below (s₁.setTop (mkF m 42 #[.val (.long p1), .second, .val (.long p2), .second, .val (.int p3), .val (.int p4), .val (.int p5), .val (.long sb), .second, .val (.int la), .val (.int a0_), .unset, .unset, .unset, .unset, .unset, .unset, .unset, .unset, .unset, .unset, .unset, .unset] [(.int (((p3.toUInt32 >>> ((10 : Int32) &&& 31).toUInt32).toInt32) &&& (255 : Int32)))])) _
    refine XS.i2c X0.here hx rfl (hb hby at_42) rfl ?_
    show Steps p.tables e below (s₁.setTop (mkF m 43 #[.val (.long p1), .second, .val (.long p2), .second, .val (.int p3), .val (.int p4), .val (.int p5), .val (.long sb), .second, .val (.int la), .val (.int a0_), .unset, .unset, .unset, .unset, .unset, .unset, .unset, .unset, .unset, .unset, .unset, .unset] [(.int ((((p3.toUInt32 >>> ((10 : Int32) &&& 31).toUInt32).toInt32) &&& (255 : Int32)).toUInt32.toUInt16.toUInt32.toInt32))])) _
    exact k
  rw [i2c_mask]
  obtain ⟨a1_, ha1_⟩ : ∃ z : Int32, z = (((p3.toUInt32 >>> ((10 : Int32) &&& 31).toUInt32).toInt32) &&& (255 : Int32)) := ⟨_, rfl⟩
  rw [← ha1_]
  have ba1_ : ¬ a1_ < 0 ∧ ¬ (255 : Int32) < a1_ := by rw [ha1_]; exact own_b255 _
  have ca1_ : nar .char a1_ = a1_ := by rw [ha1_]; exact i2c_mask _
  refine own_go (B := s₁.setTop (mkF m 53 #[.val (.long p1), .second, .val (.long p2), .second, .val (.int p3), .val (.int p4), .val (.int p5), .val (.long sb), .second, .val (.int la), .val (.int a0_), .val (.int a1_), .val (.int ((p4 &&& (3 : Int32)) % (3 : Int32))), .unset, .unset, .unset, .unset, .unset, .unset, .unset, .unset, .unset, .unset] [])) (fun t k => ?_) ?_
  · show Steps p.tables e below (s₁.setTop (mkF m 43 #[.val (.long p1), .second, .val (.long p2), .second, .val (.int p3), .val (.int p4), .val (.int p5), .val (.long sb), .second, .val (.int la), .val (.int a0_), .unset, .unset, .unset, .unset, .unset, .unset, .unset, .unset, .unset, .unset, .unset, .unset] [(.int a1_)])) _
    refine XS.istore X0.here hx rfl (hb hby at_43) rfl (l' := #[.val (.long p1), .second, .val (.long p2), .second, .val (.int p3), .val (.int p4), .val (.int p5), .val (.long sb), .second, .val (.int la), .val (.int a0_), .val (.int a1_), .unset, .unset, .unset, .unset, .unset, .unset, .unset, .unset, .unset, .unset, .unset]) rfl ?_
    show Steps p.tables e below (s₁.setTop (mkF m 45 #[.val (.long p1), .second, .val (.long p2), .second, .val (.int p3), .val (.int p4), .val (.int p5), .val (.long sb), .second, .val (.int la), .val (.int a0_), .val (.int a1_), .unset, .unset, .unset, .unset, .unset, .unset, .unset, .unset, .unset, .unset, .unset] [])) _
    refine XS.iload X0.here hx rfl (hb hby at_45) rfl ?_
    show Steps p.tables e below (s₁.setTop (mkF m 47 #[.val (.long p1), .second, .val (.long p2), .second, .val (.int p3), .val (.int p4), .val (.int p5), .val (.long sb), .second, .val (.int la), .val (.int a0_), .val (.int a1_), .unset, .unset, .unset, .unset, .unset, .unset, .unset, .unset, .unset, .unset, .unset] [(.int p4)])) _
    refine XS.iconst X0.here hx rfl (hb hby at_47) ?_
    show Steps p.tables e below (s₁.setTop (mkF m 48 #[.val (.long p1), .second, .val (.long p2), .second, .val (.int p3), .val (.int p4), .val (.int p5), .val (.long sb), .second, .val (.int la), .val (.int a0_), .val (.int a1_), .unset, .unset, .unset, .unset, .unset, .unset, .unset, .unset, .unset, .unset, .unset] [(.int (3 : Int32)), (.int p4)])) _
    refine XS.iand X0.here hx rfl (hb hby at_48) rfl ?_
    show Steps p.tables e below (s₁.setTop (mkF m 49 #[.val (.long p1), .second, .val (.long p2), .second, .val (.int p3), .val (.int p4), .val (.int p5), .val (.long sb), .second, .val (.int la), .val (.int a0_), .val (.int a1_), .unset, .unset, .unset, .unset, .unset, .unset, .unset, .unset, .unset, .unset, .unset] [(.int (p4 &&& (3 : Int32)))])) _
    refine XS.iconst X0.here hx rfl (hb hby at_49) ?_
    show Steps p.tables e below (s₁.setTop (mkF m 50 #[.val (.long p1), .second, .val (.long p2), .second, .val (.int p3), .val (.int p4), .val (.int p5), .val (.long sb), .second, .val (.int la), .val (.int a0_), .val (.int a1_), .unset, .unset, .unset, .unset, .unset, .unset, .unset, .unset, .unset, .unset, .unset] [(.int (3 : Int32)), (.int (p4 &&& (3 : Int32)))])) _
    refine Jvm.RoadKit.iremM (g := (mkF m 50 #[.val (.long p1), .second, .val (.long p2), .second, .val (.int p3), .val (.int p4), .val (.int p5), .val (.long sb), .second, .val (.int la), .val (.int a0_), .val (.int a1_), .unset, .unset, .unset, .unset, .unset, .unset, .unset, .unset, .unset, .unset, .unset] [(.int (3 : Int32)), (.int (p4 &&& (3 : Int32)))])) X0 hx rfl (hb hby at_50) rfl (by decide) ?_
    show Steps p.tables e below (s₁.setTop (mkF m 51 #[.val (.long p1), .second, .val (.long p2), .second, .val (.int p3), .val (.int p4), .val (.int p5), .val (.long sb), .second, .val (.int la), .val (.int a0_), .val (.int a1_), .unset, .unset, .unset, .unset, .unset, .unset, .unset, .unset, .unset, .unset, .unset] [(.int ((p4 &&& (3 : Int32)) % (3 : Int32)))])) _
    refine XS.istore X0.here hx rfl (hb hby at_51) rfl (l' := #[.val (.long p1), .second, .val (.long p2), .second, .val (.int p3), .val (.int p4), .val (.int p5), .val (.long sb), .second, .val (.int la), .val (.int a0_), .val (.int a1_), .val (.int ((p4 &&& (3 : Int32)) % (3 : Int32))), .unset, .unset, .unset, .unset, .unset, .unset, .unset, .unset, .unset, .unset]) rfl ?_
    show Steps p.tables e below (s₁.setTop (mkF m 53 #[.val (.long p1), .second, .val (.long p2), .second, .val (.int p3), .val (.int p4), .val (.int p5), .val (.long sb), .second, .val (.int la), .val (.int a0_), .val (.int a1_), .val (.int ((p4 &&& (3 : Int32)) % (3 : Int32))), .unset, .unset, .unset, .unset, .unset, .unset, .unset, .unset, .unset, .unset] [])) _
    exact k
  obtain ⟨lb, hlb⟩ : ∃ z : Int32, z = ((p4 &&& (3 : Int32)) % (3 : Int32)) := ⟨_, rfl⟩
  rw [← hlb]
  have blb : lb = (0 : Int32) ∨ lb = (1 : Int32) ∨ lb = (2 : Int32) := by rw [hlb]; exact own_len3 _
  refine own_go (B := s₁.setTop (mkF m 57 #[.val (.long p1), .second, .val (.long p2), .second, .val (.int p3), .val (.int p4), .val (.int p5), .val (.long sb), .second, .val (.int la), .val (.int a0_), .val (.int a1_), .val (.int lb), .unset, .unset, .unset, .unset, .unset, .unset, .unset, .unset, .unset, .unset] [(.int (p5 &&& (4 : Int32)))])) (fun t k => ?_) ?_
  · show Steps p.tables e below (s₁.setTop (mkF m 53 #[.val (.long p1), .second, .val (.long p2), .second, .val (.int p3), .val (.int p4), .val (.int p5), .val (.long sb), .second, .val (.int la), .val (.int a0_), .val (.int a1_), .val (.int lb), .unset, .unset, .unset, .unset, .unset, .unset, .unset, .unset, .unset, .unset] [])) _
    refine XS.iload X0.here hx rfl (hb hby at_53) rfl ?_
    show Steps p.tables e below (s₁.setTop (mkF m 55 #[.val (.long p1), .second, .val (.long p2), .second, .val (.int p3), .val (.int p4), .val (.int p5), .val (.long sb), .second, .val (.int la), .val (.int a0_), .val (.int a1_), .val (.int lb), .unset, .unset, .unset, .unset, .unset, .unset, .unset, .unset, .unset, .unset] [(.int p5)])) _
    refine XS.iconst X0.here hx rfl (hb hby at_55) ?_
    show Steps p.tables e below (s₁.setTop (mkF m 56 #[.val (.long p1), .second, .val (.long p2), .second, .val (.int p3), .val (.int p4), .val (.int p5), .val (.long sb), .second, .val (.int la), .val (.int a0_), .val (.int a1_), .val (.int lb), .unset, .unset, .unset, .unset, .unset, .unset, .unset, .unset, .unset, .unset] [(.int (4 : Int32)), (.int p5)])) _
    refine XS.iand X0.here hx rfl (hb hby at_56) rfl ?_
    show Steps p.tables e below (s₁.setTop (mkF m 57 #[.val (.long p1), .second, .val (.long p2), .second, .val (.int p3), .val (.int p4), .val (.int p5), .val (.long sb), .second, .val (.int la), .val (.int a0_), .val (.int a1_), .val (.int lb), .unset, .unset, .unset, .unset, .unset, .unset, .unset, .unset, .unset, .unset] [(.int (p5 &&& (4 : Int32)))])) _
    exact k
  obtain ⟨e0_, he0_⟩ : ∃ z : Int32, z = (if (p5 &&& (4 : Int32)) = (0 : Int32) then ((((p4.toUInt32 >>> ((2 : Int32) &&& 31).toUInt32).toInt32) &&& (255 : Int32)).toUInt32.toUInt16.toUInt32.toInt32) else a0_) := ⟨_, rfl⟩
  refine own_go (B := s₁.setTop (mkF m 74 #[.val (.long p1), .second, .val (.long p2), .second, .val (.int p3), .val (.int p4), .val (.int p5), .val (.long sb), .second, .val (.int la), .val (.int a0_), .val (.int a1_), .val (.int lb), .unset, .unset, .unset, .unset, .unset, .unset, .unset, .unset, .unset, .unset] [(.int e0_)])) (fun t k => ?_) ?_
  · skip
    show Steps p.tables e below (s₁.setTop (mkF m 57 #[.val (.long p1), .second, .val (.long p2), .second, .val (.int p3), .val (.int p4), .val (.int p5), .val (.long sb), .second, .val (.int la), .val (.int a0_), .val (.int a1_), .val (.int lb), .unset, .unset, .unset, .unset, .unset, .unset, .unset, .unset, .unset, .unset] [(.int (p5 &&& (4 : Int32)))])) _
    by_cases hm57 : (p5 &&& (4 : Int32)) = (0 : Int32)
    · skip
      simp only [if_pos hm57] at he0_
      rw [he0_] at k
      show Steps p.tables e below (s₁.setTop (mkF m 57 #[.val (.long p1), .second, .val (.long p2), .second, .val (.int p3), .val (.int p4), .val (.int p5), .val (.long sb), .second, .val (.int la), .val (.int a0_), .val (.int a1_), .val (.int lb), .unset, .unset, .unset, .unset, .unset, .unset, .unset, .unset, .unset, .unset] [(.int (p5 &&& (4 : Int32)))])) _
      refine XS.ifYes X0.here hx rfl (pc0 := 57) (pc' := 65) rfl (hb hby at_57) rfl ((if0 _ _).trans (teq hm57).1) (by decide) (by decide) ?_
      show Steps p.tables e below (s₁.setTop (mkF m 65 #[.val (.long p1), .second, .val (.long p2), .second, .val (.int p3), .val (.int p4), .val (.int p5), .val (.long sb), .second, .val (.int la), .val (.int a0_), .val (.int a1_), .val (.int lb), .unset, .unset, .unset, .unset, .unset, .unset, .unset, .unset, .unset, .unset] [])) _
      refine XS.iload X0.here hx rfl (hb hby at_65) rfl ?_
      show Steps p.tables e below (s₁.setTop (mkF m 67 #[.val (.long p1), .second, .val (.long p2), .second, .val (.int p3), .val (.int p4), .val (.int p5), .val (.long sb), .second, .val (.int la), .val (.int a0_), .val (.int a1_), .val (.int lb), .unset, .unset, .unset, .unset, .unset, .unset, .unset, .unset, .unset, .unset] [(.int p4)])) _
      refine XS.iconst X0.here hx rfl (hb hby at_67) ?_
      show Steps p.tables e below (s₁.setTop (mkF m 68 #[.val (.long p1), .second, .val (.long p2), .second, .val (.int p3), .val (.int p4), .val (.int p5), .val (.long sb), .second, .val (.int la), .val (.int a0_), .val (.int a1_), .val (.int lb), .unset, .unset, .unset, .unset, .unset, .unset, .unset, .unset, .unset, .unset] [(.int (2 : Int32)), (.int p4)])) _
      refine XS.iushr X0.here hx rfl (hb hby at_68) rfl ?_
      show Steps p.tables e below (s₁.setTop (mkF m 69 #[.val (.long p1), .second, .val (.long p2), .second, .val (.int p3), .val (.int p4), .val (.int p5), .val (.long sb), .second, .val (.int la), .val (.int a0_), .val (.int a1_), .val (.int lb), .unset, .unset, .unset, .unset, .unset, .unset, .unset, .unset, .unset, .unset] [(.int ((p4.toUInt32 >>> ((2 : Int32) &&& 31).toUInt32).toInt32))])) _
      refine XS.sipush X0.here hx rfl (hb hby at_69) ?_
      show Steps p.tables e below (s₁.setTop (mkF m 72 #[.val (.long p1), .second, .val (.long p2), .second, .val (.int p3), .val (.int p4), .val (.int p5), .val (.long sb), .second, .val (.int la), .val (.int a0_), .val (.int a1_), .val (.int lb), .unset, .unset, .unset, .unset, .unset, .unset, .unset, .unset, .unset, .unset] [(.int (255 : Int32)), (.int ((p4.toUInt32 >>> ((2 : Int32) &&& 31).toUInt32).toInt32))])) _
      refine XS.iand X0.here hx rfl (hb hby at_72) rfl ?_
      show Steps p.tables e below (s₁.setTop (mkF m 73 #[.val (.long p1), .second, .val (.long p2), .second, .val (.int p3), .val (.int p4), .val (.int p5), .val (.long sb), .second, .val (.int la), .val (.int a0_), .val (.int a1_), .val (.int lb), .unset, .unset, .unset, .unset, .unset, .unset, .unset, .unset, .unset, .unset] [(.int (((p4.toUInt32 >>> ((2 : Int32) &&& 31).toUInt32).toInt32) &&& (255 : Int32)))])) _
      refine XS.i2c X0.here hx rfl (hb hby at_73) rfl ?_
      show Steps p.tables e below (s₁.setTop (mkF m 74 #[.val (.long p1), .second, .val (.long p2), .second, .val (.int p3), .val (.int p4), .val (.int p5), .val (.long sb), .second, .val (.int la), .val (.int a0_), .val (.int a1_), .val (.int lb), .unset, .unset, .unset, .unset, .unset, .unset, .unset, .unset, .unset, .unset] [(.int ((((p4.toUInt32 >>> ((2 : Int32) &&& 31).toUInt32).toInt32) &&& (255 : Int32)).toUInt32.toUInt16.toUInt32.toInt32))])) _
      exact k
    · skip
      simp only [if_neg hm57] at he0_
      rw [he0_] at k
      show Steps p.tables e below (s₁.setTop (mkF m 57 #[.val (.long p1), .second, .val (.long p2), .second, .val (.int p3), .val (.int p4), .val (.int p5), .val (.long sb), .second, .val (.int la), .val (.int a0_), .val (.int a1_), .val (.int lb), .unset, .unset, .unset, .unset, .unset, .unset, .unset, .unset, .unset, .unset] [(.int (p5 &&& (4 : Int32)))])) _
      refine XS.ifNo X0.here hx rfl (hb hby at_57) rfl ((if0 _ _).trans (feq hm57).1) ?_
      show Steps p.tables e below (s₁.setTop (mkF m 60 #[.val (.long p1), .second, .val (.long p2), .second, .val (.int p3), .val (.int p4), .val (.int p5), .val (.long sb), .second, .val (.int la), .val (.int a0_), .val (.int a1_), .val (.int lb), .unset, .unset, .unset, .unset, .unset, .unset, .unset, .unset, .unset, .unset] [])) _
      refine XS.iload X0.here hx rfl (hb hby at_60) rfl ?_
      show Steps p.tables e below (s₁.setTop (mkF m 62 #[.val (.long p1), .second, .val (.long p2), .second, .val (.int p3), .val (.int p4), .val (.int p5), .val (.long sb), .second, .val (.int la), .val (.int a0_), .val (.int a1_), .val (.int lb), .unset, .unset, .unset, .unset, .unset, .unset, .unset, .unset, .unset, .unset] [(.int a0_)])) _
      refine XS.goto X0.here hx rfl (pc0 := 62) (pc' := 74) rfl (hb hby at_62) (by decide) (by decide) ?_
      show Steps p.tables e below (s₁.setTop (mkF m 74 #[.val (.long p1), .second, .val (.long p2), .second, .val (.int p3), .val (.int p4), .val (.int p5), .val (.long sb), .second, .val (.int la), .val (.int a0_), .val (.int a1_), .val (.int lb), .unset, .unset, .unset, .unset, .unset, .unset, .unset, .unset, .unset, .unset] [(.int a0_)])) _
      exact k
  refine own_go (B := s₁.setTop (mkF m 76 #[.val (.long p1), .second, .val (.long p2), .second, .val (.int p3), .val (.int p4), .val (.int p5), .val (.long sb), .second, .val (.int la), .val (.int a0_), .val (.int a1_), .val (.int lb), .val (.int e0_), .unset, .unset, .unset, .unset, .unset, .unset, .unset, .unset, .unset] [])) (fun t k => ?_) ?_
  · show Steps p.tables e below (s₁.setTop (mkF m 74 #[.val (.long p1), .second, .val (.long p2), .second, .val (.int p3), .val (.int p4), .val (.int p5), .val (.long sb), .second, .val (.int la), .val (.int a0_), .val (.int a1_), .val (.int lb), .unset, .unset, .unset, .unset, .unset, .unset, .unset, .unset, .unset, .unset] [(.int e0_)])) _
    refine XS.istore X0.here hx rfl (hb hby at_74) rfl (l' := #[.val (.long p1), .second, .val (.long p2), .second, .val (.int p3), .val (.int p4), .val (.int p5), .val (.long sb), .second, .val (.int la), .val (.int a0_), .val (.int a1_), .val (.int lb), .val (.int e0_), .unset, .unset, .unset, .unset, .unset, .unset, .unset, .unset, .unset]) rfl ?_
    show Steps p.tables e below (s₁.setTop (mkF m 76 #[.val (.long p1), .second, .val (.long p2), .second, .val (.int p3), .val (.int p4), .val (.int p5), .val (.long sb), .second, .val (.int la), .val (.int a0_), .val (.int a1_), .val (.int lb), .val (.int e0_), .unset, .unset, .unset, .unset, .unset, .unset, .unset, .unset, .unset] [])) _
    exact k
  have be0_ : ¬ e0_ < 0 ∧ ¬ (255 : Int32) < e0_ := by rw [he0_]; split; exact (by rw [i2c_mask]; exact own_b255 _); exact ba0_
  refine own_go (B := s₁.setTop (mkF m 81 #[.val (.long p1), .second, .val (.long p2), .second, .val (.int p3), .val (.int p4), .val (.int p5), .val (.long sb), .second, .val (.int la), .val (.int a0_), .val (.int a1_), .val (.int lb), .val (.int e0_), .unset, .unset, .unset, .unset, .unset, .unset, .unset, .unset, .unset] [(.int (p5 &&& (16 : Int32)))])) (fun t k => ?_) ?_
  · show Steps p.tables e below (s₁.setTop (mkF m 76 #[.val (.long p1), .second, .val (.long p2), .second, .val (.int p3), .val (.int p4), .val (.int p5), .val (.long sb), .second, .val (.int la), .val (.int a0_), .val (.int a1_), .val (.int lb), .val (.int e0_), .unset, .unset, .unset, .unset, .unset, .unset, .unset, .unset, .unset] [])) _
    refine XS.iload X0.here hx rfl (hb hby at_76) rfl ?_
    show Steps p.tables e below (s₁.setTop (mkF m 78 #[.val (.long p1), .second, .val (.long p2), .second, .val (.int p3), .val (.int p4), .val (.int p5), .val (.long sb), .second, .val (.int la), .val (.int a0_), .val (.int a1_), .val (.int lb), .val (.int e0_), .unset, .unset, .unset, .unset, .unset, .unset, .unset, .unset, .unset] [(.int p5)])) _
    refine XS.bipush X0.here hx rfl (hb hby at_78) ?_
    show Steps p.tables e below (s₁.setTop (mkF m 80 #[.val (.long p1), .second, .val (.long p2), .second, .val (.int p3), .val (.int p4), .val (.int p5), .val (.long sb), .second, .val (.int la), .val (.int a0_), .val (.int a1_), .val (.int lb), .val (.int e0_), .unset, .unset, .unset, .unset, .unset, .unset, .unset, .unset, .unset] [(.int (16 : Int32)), (.int p5)])) _
    refine XS.iand X0.here hx rfl (hb hby at_80) rfl ?_
    show Steps p.tables e below (s₁.setTop (mkF m 81 #[.val (.long p1), .second, .val (.long p2), .second, .val (.int p3), .val (.int p4), .val (.int p5), .val (.long sb), .second, .val (.int la), .val (.int a0_), .val (.int a1_), .val (.int lb), .val (.int e0_), .unset, .unset, .unset, .unset, .unset, .unset, .unset, .unset, .unset] [(.int (p5 &&& (16 : Int32)))])) _
    exact k
  obtain ⟨e1_, he1_⟩ : ∃ z : Int32, z = (if (p5 &&& (16 : Int32)) = (0 : Int32) then ((((p4.toUInt32 >>> ((10 : Int32) &&& 31).toUInt32).toInt32) &&& (255 : Int32)).toUInt32.toUInt16.toUInt32.toInt32) else a1_) := ⟨_, rfl⟩
  refine own_go (B := s₁.setTop (mkF m 99 #[.val (.long p1), .second, .val (.long p2), .second, .val (.int p3), .val (.int p4), .val (.int p5), .val (.long sb), .second, .val (.int la), .val (.int a0_), .val (.int a1_), .val (.int lb), .val (.int e0_), .unset, .unset, .unset, .unset, .unset, .unset, .unset, .unset, .unset] [(.int e1_)])) (fun t k => ?_) ?_
  · skip
    show Steps p.tables e below (s₁.setTop (mkF m 81 #[.val (.long p1), .second, .val (.long p2), .second, .val (.int p3), .val (.int p4), .val (.int p5), .val (.long sb), .second, .val (.int la), .val (.int a0_), .val (.int a1_), .val (.int lb), .val (.int e0_), .unset, .unset, .unset, .unset, .unset, .unset, .unset, .unset, .unset] [(.int (p5 &&& (16 : Int32)))])) _
    by_cases hm81 : (p5 &&& (16 : Int32)) = (0 : Int32)
    · skip
      simp only [if_pos hm81] at he1_
      rw [he1_] at k
      show Steps p.tables e below (s₁.setTop (mkF m 81 #[.val (.long p1), .second, .val (.long p2), .second, .val (.int p3), .val (.int p4), .val (.int p5), .val (.long sb), .second, .val (.int la), .val (.int a0_), .val (.int a1_), .val (.int lb), .val (.int e0_), .unset, .unset, .unset, .unset, .unset, .unset, .unset, .unset, .unset] [(.int (p5 &&& (16 : Int32)))])) _
      refine XS.ifYes X0.here hx rfl (pc0 := 81) (pc' := 89) rfl (hb hby at_81) rfl ((if0 _ _).trans (teq hm81).1) (by decide) (by decide) ?_
      show Steps p.tables e below (s₁.setTop (mkF m 89 #[.val (.long p1), .second, .val (.long p2), .second, .val (.int p3), .val (.int p4), .val (.int p5), .val (.long sb), .second, .val (.int la), .val (.int a0_), .val (.int a1_), .val (.int lb), .val (.int e0_), .unset, .unset, .unset, .unset, .unset, .unset, .unset, .unset, .unset] [])) _
      refine XS.iload X0.here hx rfl (hb hby at_89) rfl ?_
      show Steps p.tables e below (s₁.setTop (mkF m 91 #[.val (.long p1), .second, .val (.long p2), .second, .val (.int p3), .val (.int p4), .val (.int p5), .val (.long sb), .second, .val (.int la), .val (.int a0_), .val (.int a1_), .val (.int lb), .val (.int e0_), .unset, .unset, .unset, .unset, .unset, .unset, .unset, .unset, .unset] [(.int p4)])) _
      refine XS.bipush X0.here hx rfl (hb hby at_91) ?_
      show Steps p.tables e below (s₁.setTop (mkF m 93 #[.val (.long p1), .second, .val (.long p2), .second, .val (.int p3), .val (.int p4), .val (.int p5), .val (.long sb), .second, .val (.int la), .val (.int a0_), .val (.int a1_), .val (.int lb), .val (.int e0_), .unset, .unset, .unset, .unset, .unset, .unset, .unset, .unset, .unset] [(.int (10 : Int32)), (.int p4)])) _
      refine XS.iushr X0.here hx rfl (hb hby at_93) rfl ?_
      show Steps p.tables e below (s₁.setTop (mkF m 94 #[.val (.long p1), .second, .val (.long p2), .second, .val (.int p3), .val (.int p4), .val (.int p5), .val (.long sb), .second, .val (.int la), .val (.int a0_), .val (.int a1_), .val (.int lb), .val (.int e0_), .unset, .unset, .unset, .unset, .unset, .unset, .unset, .unset, .unset] [(.int ((p4.toUInt32 >>> ((10 : Int32) &&& 31).toUInt32).toInt32))])) _
      refine XS.sipush X0.here hx rfl (hb hby at_94) ?_
      show Steps p.tables e below (s₁.setTop (mkF m 97 #[.val (.long p1), .second, .val (.long p2), .second, .val (.int p3), .val (.int p4), .val (.int p5), .val (.long sb), .second, .val (.int la), .val (.int a0_), .val (.int a1_), .val (.int lb), .val (.int e0_), .unset, .unset, .unset, .unset, .unset, .unset, .unset, .unset, .unset] [(.int (255 : Int32)), (.int ((p4.toUInt32 >>> ((10 : Int32) &&& 31).toUInt32).toInt32))])) _
      refine XS.iand X0.here hx rfl (hb hby at_97) rfl ?_
      show Steps p.tables e below (s₁.setTop (mkF m 98 #[.val (.long p1), .second, .val (.long p2), .second, .val (.int p3), .val (.int p4), .val (.int p5), .val (.long sb), .second, .val (.int la), .val (.int a0_), .val (.int a1_), .val (.int lb), .val (.int e0_), .unset, .unset, .unset, .unset, .unset, .unset, .unset, .unset, .unset] [(.int (((p4.toUInt32 >>> ((10 : Int32) &&& 31).toUInt32).toInt32) &&& (255 : Int32)))])) _
      refine XS.i2c X0.here hx rfl (hb hby at_98) rfl ?_
      show Steps p.tables e below (s₁.setTop (mkF m 99 #[.val (.long p1), .second, .val (.long p2), .second, .val (.int p3), .val (.int p4), .val (.int p5), .val (.long sb), .second, .val (.int la), .val (.int a0_), .val (.int a1_), .val (.int lb), .val (.int e0_), .unset, .unset, .unset, .unset, .unset, .unset, .unset, .unset, .unset] [(.int ((((p4.toUInt32 >>> ((10 : Int32) &&& 31).toUInt32).toInt32) &&& (255 : Int32)).toUInt32.toUInt16.toUInt32.toInt32))])) _
      exact k
    · skip
      simp only [if_neg hm81] at he1_
      rw [he1_] at k
      show Steps p.tables e below (s₁.setTop (mkF m 81 #[.val (.long p1), .second, .val (.long p2), .second, .val (.int p3), .val (.int p4), .val (.int p5), .val (.long sb), .second, .val (.int la), .val (.int a0_), .val (.int a1_), .val (.int lb), .val (.int e0_), .unset, .unset, .unset, .unset, .unset, .unset, .unset, .unset, .unset] [(.int (p5 &&& (16 : Int32)))])) _
      refine XS.ifNo X0.here hx rfl (hb hby at_81) rfl ((if0 _ _).trans (feq hm81).1) ?_
      show Steps p.tables e below (s₁.setTop (mkF m 84 #[.val (.long p1), .second, .val (.long p2), .second, .val (.int p3), .val (.int p4), .val (.int p5), .val (.long sb), .second, .val (.int la), .val (.int a0_), .val (.int a1_), .val (.int lb), .val (.int e0_), .unset, .unset, .unset, .unset, .unset, .unset, .unset, .unset, .unset] [])) _
      refine XS.iload X0.here hx rfl (hb hby at_84) rfl ?_
      show Steps p.tables e below (s₁.setTop (mkF m 86 #[.val (.long p1), .second, .val (.long p2), .second, .val (.int p3), .val (.int p4), .val (.int p5), .val (.long sb), .second, .val (.int la), .val (.int a0_), .val (.int a1_), .val (.int lb), .val (.int e0_), .unset, .unset, .unset, .unset, .unset, .unset, .unset, .unset, .unset] [(.int a1_)])) _
      refine XS.goto X0.here hx rfl (pc0 := 86) (pc' := 99) rfl (hb hby at_86) (by decide) (by decide) ?_
      show Steps p.tables e below (s₁.setTop (mkF m 99 #[.val (.long p1), .second, .val (.long p2), .second, .val (.int p3), .val (.int p4), .val (.int p5), .val (.long sb), .second, .val (.int la), .val (.int a0_), .val (.int a1_), .val (.int lb), .val (.int e0_), .unset, .unset, .unset, .unset, .unset, .unset, .unset, .unset, .unset] [(.int a1_)])) _
      exact k
  refine own_go (B := s₁.setTop (mkF m 101 #[.val (.long p1), .second, .val (.long p2), .second, .val (.int p3), .val (.int p4), .val (.int p5), .val (.long sb), .second, .val (.int la), .val (.int a0_), .val (.int a1_), .val (.int lb), .val (.int e0_), .val (.int e1_), .unset, .unset, .unset, .unset, .unset, .unset, .unset, .unset] [])) (fun t k => ?_) ?_
  · show Steps p.tables e below (s₁.setTop (mkF m 99 #[.val (.long p1), .second, .val (.long p2), .second, .val (.int p3), .val (.int p4), .val (.int p5), .val (.long sb), .second, .val (.int la), .val (.int a0_), .val (.int a1_), .val (.int lb), .val (.int e0_), .unset, .unset, .unset, .unset, .unset, .unset, .unset, .unset, .unset] [(.int e1_)])) _
    refine XS.istore X0.here hx rfl (hb hby at_99) rfl (l' := #[.val (.long p1), .second, .val (.long p2), .second, .val (.int p3), .val (.int p4), .val (.int p5), .val (.long sb), .second, .val (.int la), .val (.int a0_), .val (.int a1_), .val (.int lb), .val (.int e0_), .val (.int e1_), .unset, .unset, .unset, .unset, .unset, .unset, .unset, .unset]) rfl ?_
    show Steps p.tables e below (s₁.setTop (mkF m 101 #[.val (.long p1), .second, .val (.long p2), .second, .val (.int p3), .val (.int p4), .val (.int p5), .val (.long sb), .second, .val (.int la), .val (.int a0_), .val (.int a1_), .val (.int lb), .val (.int e0_), .val (.int e1_), .unset, .unset, .unset, .unset, .unset, .unset, .unset, .unset] [])) _
    exact k
  have be1_ : ¬ e1_ < 0 ∧ ¬ (255 : Int32) < e1_ := by rw [he1_]; split; exact (by rw [i2c_mask]; exact own_b255 _); exact ba1_
  suffices hseg1 : ∀ (T1 : State) (vm1 : Vm) (kk1 : Nat) (L1 : List Loc) (wa1 : Addr) (wb1 : Addr), Stand p l e room_1 (s.setVm vm1) m #[(.long p1), (.long p2), (.int p3), (.int p4), (.int p5)] below meth c T1 L1 0 0 → T1.heap = h0 → Fr n0 L1 → s.Since vm1 kk1 → kk1 ≤ h0.size → Z.Warmed39 (s.setVm vm1).vm → (s.setVm vm1).vm.findClass "com/example/lockline/lockline/ContenderIsAheadOfPinLaw" = some m.cls → Em Z vm1 h0 → ∃ s₂ o, Steps p.tables e below (T1.setTop (mkF m 138 #[.val (.long p1), .second, .val (.long p2), .second, .val (.int p3), .val (.int p4), .val (.int p5), .val (.long sb), .second, .val (.int la), .val (.int a0_), .val (.int a1_), .val (.int lb), .val (.int e0_), .val (.int e1_), .val (.ref wa1), .val (.ref wb1), .unset, .unset, .unset, .unset, .unset, .unset] [])) s₂ ∧ P s₂ o by
    refine own_go (B := s₁.setTop (mkF m 105 #[.val (.long p1), .second, .val (.long p2), .second, .val (.int p3), .val (.int p4), .val (.int p5), .val (.long sb), .second, .val (.int la), .val (.int a0_), .val (.int a1_), .val (.int lb), .val (.int e0_), .val (.int e1_), .unset, .unset, .unset, .unset, .unset, .unset, .unset, .unset] [(.int (p5 &&& (1 : Int32)))])) (fun t k => ?_) ?_
    · show Steps p.tables e below (s₁.setTop (mkF m 101 #[.val (.long p1), .second, .val (.long p2), .second, .val (.int p3), .val (.int p4), .val (.int p5), .val (.long sb), .second, .val (.int la), .val (.int a0_), .val (.int a1_), .val (.int lb), .val (.int e0_), .val (.int e1_), .unset, .unset, .unset, .unset, .unset, .unset, .unset, .unset] [])) _
      refine XS.iload X0.here hx rfl (hb hby at_101) rfl ?_
      show Steps p.tables e below (s₁.setTop (mkF m 103 #[.val (.long p1), .second, .val (.long p2), .second, .val (.int p3), .val (.int p4), .val (.int p5), .val (.long sb), .second, .val (.int la), .val (.int a0_), .val (.int a1_), .val (.int lb), .val (.int e0_), .val (.int e1_), .unset, .unset, .unset, .unset, .unset, .unset, .unset, .unset] [(.int p5)])) _
      refine XS.iconst X0.here hx rfl (hb hby at_103) ?_
      show Steps p.tables e below (s₁.setTop (mkF m 104 #[.val (.long p1), .second, .val (.long p2), .second, .val (.int p3), .val (.int p4), .val (.int p5), .val (.long sb), .second, .val (.int la), .val (.int a0_), .val (.int a1_), .val (.int lb), .val (.int e0_), .val (.int e1_), .unset, .unset, .unset, .unset, .unset, .unset, .unset, .unset] [(.int (1 : Int32)), (.int p5)])) _
      refine XS.iand X0.here hx rfl (hb hby at_104) rfl ?_
      show Steps p.tables e below (s₁.setTop (mkF m 105 #[.val (.long p1), .second, .val (.long p2), .second, .val (.int p3), .val (.int p4), .val (.int p5), .val (.long sb), .second, .val (.int la), .val (.int a0_), .val (.int a1_), .val (.int lb), .val (.int e0_), .val (.int e1_), .unset, .unset, .unset, .unset, .unset, .unset, .unset, .unset] [(.int (p5 &&& (1 : Int32)))])) _
      exact k
    by_cases g1 : (p5 &&& (1 : Int32)) = (0 : Int32)
    · refine own_go (B := s₁.setTop (mkF m 114 #[.val (.long p1), .second, .val (.long p2), .second, .val (.int p3), .val (.int p4), .val (.int p5), .val (.long sb), .second, .val (.int la), .val (.int a0_), .val (.int a1_), .val (.int lb), .val (.int e0_), .val (.int e1_), .unset, .unset, .unset, .unset, .unset, .unset, .unset, .unset] [])) (fun t k => ?_) ?_
      · show Steps p.tables e below (s₁.setTop (mkF m 105 #[.val (.long p1), .second, .val (.long p2), .second, .val (.int p3), .val (.int p4), .val (.int p5), .val (.long sb), .second, .val (.int la), .val (.int a0_), .val (.int a1_), .val (.int lb), .val (.int e0_), .val (.int e1_), .unset, .unset, .unset, .unset, .unset, .unset, .unset, .unset] [(.int (p5 &&& (1 : Int32)))])) _
        refine XS.ifYes X0.here hx rfl (pc0 := 105) (pc' := 114) rfl (hb hby at_105) rfl ((if0 _ _).trans (teq g1).1) (by decide) (by decide) ?_
        show Steps p.tables e below (s₁.setTop (mkF m 114 #[.val (.long p1), .second, .val (.long p2), .second, .val (.int p3), .val (.int p4), .val (.int p5), .val (.long sb), .second, .val (.int la), .val (.int a0_), .val (.int a1_), .val (.int lb), .val (.int e0_), .val (.int e1_), .unset, .unset, .unset, .unset, .unset, .unset, .unset, .unset] [])) _
        exact k
      obtain ⟨T2, X2, e2, st2⟩ := getS2 X0 hx hZ hown (host := "") (Or.inl (hw _ (List.mem_of_getElem? (i := 0) rfl))) Via.refl e0 (S_R.ext O.2) (g := (mkF m 114 #[.val (.long p1), .second, .val (.long p2), .second, .val (.int p3), .val (.int p4), .val (.int p5), .val (.long sb), .second, .val (.int la), .val (.int a0_), .val (.int a1_), .val (.int lb), .val (.int e0_), .val (.int e1_), .unset, .unset, .unset, .unset, .unset, .unset, .unset, .unset] [])) rfl (hb hby at_114)
      refine own_go (B := T2.setTop (mkF m 117 #[.val (.long p1), .second, .val (.long p2), .second, .val (.int p3), .val (.int p4), .val (.int p5), .val (.long sb), .second, .val (.int la), .val (.int a0_), .val (.int a1_), .val (.int lb), .val (.int e0_), .val (.int e1_), .unset, .unset, .unset, .unset, .unset, .unset, .unset, .unset] [(.ref wR)])) st2 ?_
      refine own_go (B := T2.setTop (mkF m 124 #[.val (.long p1), .second, .val (.long p2), .second, .val (.int p3), .val (.int p4), .val (.int p5), .val (.long sb), .second, .val (.int la), .val (.int a0_), .val (.int a1_), .val (.int lb), .val (.int e0_), .val (.int e1_), .val (.ref wR), .unset, .unset, .unset, .unset, .unset, .unset, .unset] [(.int (p5 &&& (8 : Int32)))])) (fun t k => ?_) ?_
      · show Steps p.tables e below (T2.setTop (mkF m 117 #[.val (.long p1), .second, .val (.long p2), .second, .val (.int p3), .val (.int p4), .val (.int p5), .val (.long sb), .second, .val (.int la), .val (.int a0_), .val (.int a1_), .val (.int lb), .val (.int e0_), .val (.int e1_), .unset, .unset, .unset, .unset, .unset, .unset, .unset, .unset] [(.ref wR)])) _
        refine XS.astore X2.here hx rfl (hb hby at_117) rfl rfl (l' := #[.val (.long p1), .second, .val (.long p2), .second, .val (.int p3), .val (.int p4), .val (.int p5), .val (.long sb), .second, .val (.int la), .val (.int a0_), .val (.int a1_), .val (.int lb), .val (.int e0_), .val (.int e1_), .val (.ref wR), .unset, .unset, .unset, .unset, .unset, .unset, .unset]) rfl ?_
        show Steps p.tables e below (T2.setTop (mkF m 119 #[.val (.long p1), .second, .val (.long p2), .second, .val (.int p3), .val (.int p4), .val (.int p5), .val (.long sb), .second, .val (.int la), .val (.int a0_), .val (.int a1_), .val (.int lb), .val (.int e0_), .val (.int e1_), .val (.ref wR), .unset, .unset, .unset, .unset, .unset, .unset, .unset] [])) _
        refine XS.iload X2.here hx rfl (hb hby at_119) rfl ?_
        show Steps p.tables e below (T2.setTop (mkF m 121 #[.val (.long p1), .second, .val (.long p2), .second, .val (.int p3), .val (.int p4), .val (.int p5), .val (.long sb), .second, .val (.int la), .val (.int a0_), .val (.int a1_), .val (.int lb), .val (.int e0_), .val (.int e1_), .val (.ref wR), .unset, .unset, .unset, .unset, .unset, .unset, .unset] [(.int p5)])) _
        refine XS.bipush X2.here hx rfl (hb hby at_121) ?_
        show Steps p.tables e below (T2.setTop (mkF m 123 #[.val (.long p1), .second, .val (.long p2), .second, .val (.int p3), .val (.int p4), .val (.int p5), .val (.long sb), .second, .val (.int la), .val (.int a0_), .val (.int a1_), .val (.int lb), .val (.int e0_), .val (.int e1_), .val (.ref wR), .unset, .unset, .unset, .unset, .unset, .unset, .unset] [(.int (8 : Int32)), (.int p5)])) _
        refine XS.iand X2.here hx rfl (hb hby at_123) rfl ?_
        show Steps p.tables e below (T2.setTop (mkF m 124 #[.val (.long p1), .second, .val (.long p2), .second, .val (.int p3), .val (.int p4), .val (.int p5), .val (.long sb), .second, .val (.int la), .val (.int a0_), .val (.int a1_), .val (.int lb), .val (.int e0_), .val (.int e1_), .val (.ref wR), .unset, .unset, .unset, .unset, .unset, .unset, .unset] [(.int (p5 &&& (8 : Int32)))])) _
        exact k
      by_cases g2 : (p5 &&& (8 : Int32)) = (0 : Int32)
      · refine own_go (B := T2.setTop (mkF m 133 #[.val (.long p1), .second, .val (.long p2), .second, .val (.int p3), .val (.int p4), .val (.int p5), .val (.long sb), .second, .val (.int la), .val (.int a0_), .val (.int a1_), .val (.int lb), .val (.int e0_), .val (.int e1_), .val (.ref wR), .unset, .unset, .unset, .unset, .unset, .unset, .unset] [])) (fun t k => ?_) ?_
        · show Steps p.tables e below (T2.setTop (mkF m 124 #[.val (.long p1), .second, .val (.long p2), .second, .val (.int p3), .val (.int p4), .val (.int p5), .val (.long sb), .second, .val (.int la), .val (.int a0_), .val (.int a1_), .val (.int lb), .val (.int e0_), .val (.int e1_), .val (.ref wR), .unset, .unset, .unset, .unset, .unset, .unset, .unset] [(.int (p5 &&& (8 : Int32)))])) _
          refine XS.ifYes X2.here hx rfl (pc0 := 124) (pc' := 133) rfl (hb hby at_124) rfl ((if0 _ _).trans (teq g2).1) (by decide) (by decide) ?_
          show Steps p.tables e below (T2.setTop (mkF m 133 #[.val (.long p1), .second, .val (.long p2), .second, .val (.int p3), .val (.int p4), .val (.int p5), .val (.long sb), .second, .val (.int la), .val (.int a0_), .val (.int a1_), .val (.int lb), .val (.int e0_), .val (.int e1_), .val (.ref wR), .unset, .unset, .unset, .unset, .unset, .unset, .unset] [])) _
          exact k
        obtain ⟨T3, X3, e3, st3⟩ := getS2 X2 hx hZ hown (host := "") (Or.inl (hw _ (List.mem_of_getElem? (i := 0) rfl))) Via.refl e2 (S_R.ext O.2) (g := (mkF m 133 #[.val (.long p1), .second, .val (.long p2), .second, .val (.int p3), .val (.int p4), .val (.int p5), .val (.long sb), .second, .val (.int la), .val (.int a0_), .val (.int a1_), .val (.int lb), .val (.int e0_), .val (.int e1_), .val (.ref wR), .unset, .unset, .unset, .unset, .unset, .unset, .unset] [])) rfl (hb hby at_133)
        refine own_go (B := T3.setTop (mkF m 136 #[.val (.long p1), .second, .val (.long p2), .second, .val (.int p3), .val (.int p4), .val (.int p5), .val (.long sb), .second, .val (.int la), .val (.int a0_), .val (.int a1_), .val (.int lb), .val (.int e0_), .val (.int e1_), .val (.ref wR), .unset, .unset, .unset, .unset, .unset, .unset, .unset] [(.ref wR)])) st3 ?_
        refine own_go (B := T3.setTop (mkF m 138 #[.val (.long p1), .second, .val (.long p2), .second, .val (.int p3), .val (.int p4), .val (.int p5), .val (.long sb), .second, .val (.int la), .val (.int a0_), .val (.int a1_), .val (.int lb), .val (.int e0_), .val (.int e1_), .val (.ref wR), .val (.ref wR), .unset, .unset, .unset, .unset, .unset, .unset] [])) (fun t k => ?_) ?_
        · show Steps p.tables e below (T3.setTop (mkF m 136 #[.val (.long p1), .second, .val (.long p2), .second, .val (.int p3), .val (.int p4), .val (.int p5), .val (.long sb), .second, .val (.int la), .val (.int a0_), .val (.int a1_), .val (.int lb), .val (.int e0_), .val (.int e1_), .val (.ref wR), .unset, .unset, .unset, .unset, .unset, .unset, .unset] [(.ref wR)])) _
          refine XS.astore X3.here hx rfl (hb hby at_136) rfl rfl (l' := #[.val (.long p1), .second, .val (.long p2), .second, .val (.int p3), .val (.int p4), .val (.int p5), .val (.long sb), .second, .val (.int la), .val (.int a0_), .val (.int a1_), .val (.int lb), .val (.int e0_), .val (.int e1_), .val (.ref wR), .val (.ref wR), .unset, .unset, .unset, .unset, .unset, .unset]) rfl ?_
          show Steps p.tables e below (T3.setTop (mkF m 138 #[.val (.long p1), .second, .val (.long p2), .second, .val (.int p3), .val (.int p4), .val (.int p5), .val (.long sb), .second, .val (.int la), .val (.int a0_), .val (.int a1_), .val (.int lb), .val (.int e0_), .val (.int e1_), .val (.ref wR), .val (.ref wR), .unset, .unset, .unset, .unset, .unset, .unset] [])) _
          exact k
        exact hseg1 T3 _ _ _ wR wR (X3.more (by decide) (by decide)) e3 N hS hk hZ hown M
      · refine own_go (B := T2.setTop (mkF m 127 #[.val (.long p1), .second, .val (.long p2), .second, .val (.int p3), .val (.int p4), .val (.int p5), .val (.long sb), .second, .val (.int la), .val (.int a0_), .val (.int a1_), .val (.int lb), .val (.int e0_), .val (.int e1_), .val (.ref wR), .unset, .unset, .unset, .unset, .unset, .unset, .unset] [])) (fun t k => ?_) ?_
        · show Steps p.tables e below (T2.setTop (mkF m 124 #[.val (.long p1), .second, .val (.long p2), .second, .val (.int p3), .val (.int p4), .val (.int p5), .val (.long sb), .second, .val (.int la), .val (.int a0_), .val (.int a1_), .val (.int lb), .val (.int e0_), .val (.int e1_), .val (.ref wR), .unset, .unset, .unset, .unset, .unset, .unset, .unset] [(.int (p5 &&& (8 : Int32)))])) _
          refine XS.ifNo X2.here hx rfl (hb hby at_124) rfl ((if0 _ _).trans (feq g2).1) ?_
          show Steps p.tables e below (T2.setTop (mkF m 127 #[.val (.long p1), .second, .val (.long p2), .second, .val (.int p3), .val (.int p4), .val (.int p5), .val (.long sb), .second, .val (.int la), .val (.int a0_), .val (.int a1_), .val (.int lb), .val (.int e0_), .val (.int e1_), .val (.ref wR), .unset, .unset, .unset, .unset, .unset, .unset, .unset] [])) _
          exact k
        obtain ⟨T4, X4, e4, st4⟩ := getS2 X2 hx hZ hown (host := "") (Or.inl (hw _ (List.mem_of_getElem? (i := 52) rfl))) Via.refl e2 (S_W.ext O.2) (g := (mkF m 127 #[.val (.long p1), .second, .val (.long p2), .second, .val (.int p3), .val (.int p4), .val (.int p5), .val (.long sb), .second, .val (.int la), .val (.int a0_), .val (.int a1_), .val (.int lb), .val (.int e0_), .val (.int e1_), .val (.ref wR), .unset, .unset, .unset, .unset, .unset, .unset, .unset] [])) rfl (hb hby at_127)
        refine own_go (B := T4.setTop (mkF m 130 #[.val (.long p1), .second, .val (.long p2), .second, .val (.int p3), .val (.int p4), .val (.int p5), .val (.long sb), .second, .val (.int la), .val (.int a0_), .val (.int a1_), .val (.int lb), .val (.int e0_), .val (.int e1_), .val (.ref wR), .unset, .unset, .unset, .unset, .unset, .unset, .unset] [(.ref wW)])) st4 ?_
        refine own_go (B := T4.setTop (mkF m 138 #[.val (.long p1), .second, .val (.long p2), .second, .val (.int p3), .val (.int p4), .val (.int p5), .val (.long sb), .second, .val (.int la), .val (.int a0_), .val (.int a1_), .val (.int lb), .val (.int e0_), .val (.int e1_), .val (.ref wR), .val (.ref wW), .unset, .unset, .unset, .unset, .unset, .unset] [])) (fun t k => ?_) ?_
        · show Steps p.tables e below (T4.setTop (mkF m 130 #[.val (.long p1), .second, .val (.long p2), .second, .val (.int p3), .val (.int p4), .val (.int p5), .val (.long sb), .second, .val (.int la), .val (.int a0_), .val (.int a1_), .val (.int lb), .val (.int e0_), .val (.int e1_), .val (.ref wR), .unset, .unset, .unset, .unset, .unset, .unset, .unset] [(.ref wW)])) _
          refine XS.goto X4.here hx rfl (pc0 := 130) (pc' := 136) rfl (hb hby at_130) (by decide) (by decide) ?_
          show Steps p.tables e below (T4.setTop (mkF m 136 #[.val (.long p1), .second, .val (.long p2), .second, .val (.int p3), .val (.int p4), .val (.int p5), .val (.long sb), .second, .val (.int la), .val (.int a0_), .val (.int a1_), .val (.int lb), .val (.int e0_), .val (.int e1_), .val (.ref wR), .unset, .unset, .unset, .unset, .unset, .unset, .unset] [(.ref wW)])) _
          refine XS.astore X4.here hx rfl (hb hby at_136) rfl rfl (l' := #[.val (.long p1), .second, .val (.long p2), .second, .val (.int p3), .val (.int p4), .val (.int p5), .val (.long sb), .second, .val (.int la), .val (.int a0_), .val (.int a1_), .val (.int lb), .val (.int e0_), .val (.int e1_), .val (.ref wR), .val (.ref wW), .unset, .unset, .unset, .unset, .unset, .unset]) rfl ?_
          show Steps p.tables e below (T4.setTop (mkF m 138 #[.val (.long p1), .second, .val (.long p2), .second, .val (.int p3), .val (.int p4), .val (.int p5), .val (.long sb), .second, .val (.int la), .val (.int a0_), .val (.int a1_), .val (.int lb), .val (.int e0_), .val (.int e1_), .val (.ref wR), .val (.ref wW), .unset, .unset, .unset, .unset, .unset, .unset] [])) _
          exact k
        exact hseg1 T4 _ _ _ wR wW (X4.more (by decide) (by decide)) e4 N hS hk hZ hown M
    · refine own_go (B := s₁.setTop (mkF m 108 #[.val (.long p1), .second, .val (.long p2), .second, .val (.int p3), .val (.int p4), .val (.int p5), .val (.long sb), .second, .val (.int la), .val (.int a0_), .val (.int a1_), .val (.int lb), .val (.int e0_), .val (.int e1_), .unset, .unset, .unset, .unset, .unset, .unset, .unset, .unset] [])) (fun t k => ?_) ?_
      · show Steps p.tables e below (s₁.setTop (mkF m 105 #[.val (.long p1), .second, .val (.long p2), .second, .val (.int p3), .val (.int p4), .val (.int p5), .val (.long sb), .second, .val (.int la), .val (.int a0_), .val (.int a1_), .val (.int lb), .val (.int e0_), .val (.int e1_), .unset, .unset, .unset, .unset, .unset, .unset, .unset, .unset] [(.int (p5 &&& (1 : Int32)))])) _
        refine XS.ifNo X0.here hx rfl (hb hby at_105) rfl ((if0 _ _).trans (feq g1).1) ?_
        show Steps p.tables e below (s₁.setTop (mkF m 108 #[.val (.long p1), .second, .val (.long p2), .second, .val (.int p3), .val (.int p4), .val (.int p5), .val (.long sb), .second, .val (.int la), .val (.int a0_), .val (.int a1_), .val (.int lb), .val (.int e0_), .val (.int e1_), .unset, .unset, .unset, .unset, .unset, .unset, .unset, .unset] [])) _
        exact k
      obtain ⟨T5, X5, e5, st5⟩ := getS2 X0 hx hZ hown (host := "") (Or.inl (hw _ (List.mem_of_getElem? (i := 52) rfl))) Via.refl e0 (S_W.ext O.2) (g := (mkF m 108 #[.val (.long p1), .second, .val (.long p2), .second, .val (.int p3), .val (.int p4), .val (.int p5), .val (.long sb), .second, .val (.int la), .val (.int a0_), .val (.int a1_), .val (.int lb), .val (.int e0_), .val (.int e1_), .unset, .unset, .unset, .unset, .unset, .unset, .unset, .unset] [])) rfl (hb hby at_108)
      refine own_go (B := T5.setTop (mkF m 111 #[.val (.long p1), .second, .val (.long p2), .second, .val (.int p3), .val (.int p4), .val (.int p5), .val (.long sb), .second, .val (.int la), .val (.int a0_), .val (.int a1_), .val (.int lb), .val (.int e0_), .val (.int e1_), .unset, .unset, .unset, .unset, .unset, .unset, .unset, .unset] [(.ref wW)])) st5 ?_
      refine own_go (B := T5.setTop (mkF m 124 #[.val (.long p1), .second, .val (.long p2), .second, .val (.int p3), .val (.int p4), .val (.int p5), .val (.long sb), .second, .val (.int la), .val (.int a0_), .val (.int a1_), .val (.int lb), .val (.int e0_), .val (.int e1_), .val (.ref wW), .unset, .unset, .unset, .unset, .unset, .unset, .unset] [(.int (p5 &&& (8 : Int32)))])) (fun t k => ?_) ?_
      · show Steps p.tables e below (T5.setTop (mkF m 111 #[.val (.long p1), .second, .val (.long p2), .second, .val (.int p3), .val (.int p4), .val (.int p5), .val (.long sb), .second, .val (.int la), .val (.int a0_), .val (.int a1_), .val (.int lb), .val (.int e0_), .val (.int e1_), .unset, .unset, .unset, .unset, .unset, .unset, .unset, .unset] [(.ref wW)])) _
        refine XS.goto X5.here hx rfl (pc0 := 111) (pc' := 117) rfl (hb hby at_111) (by decide) (by decide) ?_
        show Steps p.tables e below (T5.setTop (mkF m 117 #[.val (.long p1), .second, .val (.long p2), .second, .val (.int p3), .val (.int p4), .val (.int p5), .val (.long sb), .second, .val (.int la), .val (.int a0_), .val (.int a1_), .val (.int lb), .val (.int e0_), .val (.int e1_), .unset, .unset, .unset, .unset, .unset, .unset, .unset, .unset] [(.ref wW)])) _
        refine XS.astore X5.here hx rfl (hb hby at_117) rfl rfl (l' := #[.val (.long p1), .second, .val (.long p2), .second, .val (.int p3), .val (.int p4), .val (.int p5), .val (.long sb), .second, .val (.int la), .val (.int a0_), .val (.int a1_), .val (.int lb), .val (.int e0_), .val (.int e1_), .val (.ref wW), .unset, .unset, .unset, .unset, .unset, .unset, .unset]) rfl ?_
        show Steps p.tables e below (T5.setTop (mkF m 119 #[.val (.long p1), .second, .val (.long p2), .second, .val (.int p3), .val (.int p4), .val (.int p5), .val (.long sb), .second, .val (.int la), .val (.int a0_), .val (.int a1_), .val (.int lb), .val (.int e0_), .val (.int e1_), .val (.ref wW), .unset, .unset, .unset, .unset, .unset, .unset, .unset] [])) _
        refine XS.iload X5.here hx rfl (hb hby at_119) rfl ?_
        show Steps p.tables e below (T5.setTop (mkF m 121 #[.val (.long p1), .second, .val (.long p2), .second, .val (.int p3), .val (.int p4), .val (.int p5), .val (.long sb), .second, .val (.int la), .val (.int a0_), .val (.int a1_), .val (.int lb), .val (.int e0_), .val (.int e1_), .val (.ref wW), .unset, .unset, .unset, .unset, .unset, .unset, .unset] [(.int p5)])) _
        refine XS.bipush X5.here hx rfl (hb hby at_121) ?_
        show Steps p.tables e below (T5.setTop (mkF m 123 #[.val (.long p1), .second, .val (.long p2), .second, .val (.int p3), .val (.int p4), .val (.int p5), .val (.long sb), .second, .val (.int la), .val (.int a0_), .val (.int a1_), .val (.int lb), .val (.int e0_), .val (.int e1_), .val (.ref wW), .unset, .unset, .unset, .unset, .unset, .unset, .unset] [(.int (8 : Int32)), (.int p5)])) _
        refine XS.iand X5.here hx rfl (hb hby at_123) rfl ?_
        show Steps p.tables e below (T5.setTop (mkF m 124 #[.val (.long p1), .second, .val (.long p2), .second, .val (.int p3), .val (.int p4), .val (.int p5), .val (.long sb), .second, .val (.int la), .val (.int a0_), .val (.int a1_), .val (.int lb), .val (.int e0_), .val (.int e1_), .val (.ref wW), .unset, .unset, .unset, .unset, .unset, .unset, .unset] [(.int (p5 &&& (8 : Int32)))])) _
        exact k
      by_cases g2 : (p5 &&& (8 : Int32)) = (0 : Int32)
      · refine own_go (B := T5.setTop (mkF m 133 #[.val (.long p1), .second, .val (.long p2), .second, .val (.int p3), .val (.int p4), .val (.int p5), .val (.long sb), .second, .val (.int la), .val (.int a0_), .val (.int a1_), .val (.int lb), .val (.int e0_), .val (.int e1_), .val (.ref wW), .unset, .unset, .unset, .unset, .unset, .unset, .unset] [])) (fun t k => ?_) ?_
        · show Steps p.tables e below (T5.setTop (mkF m 124 #[.val (.long p1), .second, .val (.long p2), .second, .val (.int p3), .val (.int p4), .val (.int p5), .val (.long sb), .second, .val (.int la), .val (.int a0_), .val (.int a1_), .val (.int lb), .val (.int e0_), .val (.int e1_), .val (.ref wW), .unset, .unset, .unset, .unset, .unset, .unset, .unset] [(.int (p5 &&& (8 : Int32)))])) _
          refine XS.ifYes X5.here hx rfl (pc0 := 124) (pc' := 133) rfl (hb hby at_124) rfl ((if0 _ _).trans (teq g2).1) (by decide) (by decide) ?_
          show Steps p.tables e below (T5.setTop (mkF m 133 #[.val (.long p1), .second, .val (.long p2), .second, .val (.int p3), .val (.int p4), .val (.int p5), .val (.long sb), .second, .val (.int la), .val (.int a0_), .val (.int a1_), .val (.int lb), .val (.int e0_), .val (.int e1_), .val (.ref wW), .unset, .unset, .unset, .unset, .unset, .unset, .unset] [])) _
          exact k
        obtain ⟨T6, X6, e6, st6⟩ := getS2 X5 hx hZ hown (host := "") (Or.inl (hw _ (List.mem_of_getElem? (i := 0) rfl))) Via.refl e5 (S_R.ext O.2) (g := (mkF m 133 #[.val (.long p1), .second, .val (.long p2), .second, .val (.int p3), .val (.int p4), .val (.int p5), .val (.long sb), .second, .val (.int la), .val (.int a0_), .val (.int a1_), .val (.int lb), .val (.int e0_), .val (.int e1_), .val (.ref wW), .unset, .unset, .unset, .unset, .unset, .unset, .unset] [])) rfl (hb hby at_133)
        refine own_go (B := T6.setTop (mkF m 136 #[.val (.long p1), .second, .val (.long p2), .second, .val (.int p3), .val (.int p4), .val (.int p5), .val (.long sb), .second, .val (.int la), .val (.int a0_), .val (.int a1_), .val (.int lb), .val (.int e0_), .val (.int e1_), .val (.ref wW), .unset, .unset, .unset, .unset, .unset, .unset, .unset] [(.ref wR)])) st6 ?_
        refine own_go (B := T6.setTop (mkF m 138 #[.val (.long p1), .second, .val (.long p2), .second, .val (.int p3), .val (.int p4), .val (.int p5), .val (.long sb), .second, .val (.int la), .val (.int a0_), .val (.int a1_), .val (.int lb), .val (.int e0_), .val (.int e1_), .val (.ref wW), .val (.ref wR), .unset, .unset, .unset, .unset, .unset, .unset] [])) (fun t k => ?_) ?_
        · show Steps p.tables e below (T6.setTop (mkF m 136 #[.val (.long p1), .second, .val (.long p2), .second, .val (.int p3), .val (.int p4), .val (.int p5), .val (.long sb), .second, .val (.int la), .val (.int a0_), .val (.int a1_), .val (.int lb), .val (.int e0_), .val (.int e1_), .val (.ref wW), .unset, .unset, .unset, .unset, .unset, .unset, .unset] [(.ref wR)])) _
          refine XS.astore X6.here hx rfl (hb hby at_136) rfl rfl (l' := #[.val (.long p1), .second, .val (.long p2), .second, .val (.int p3), .val (.int p4), .val (.int p5), .val (.long sb), .second, .val (.int la), .val (.int a0_), .val (.int a1_), .val (.int lb), .val (.int e0_), .val (.int e1_), .val (.ref wW), .val (.ref wR), .unset, .unset, .unset, .unset, .unset, .unset]) rfl ?_
          show Steps p.tables e below (T6.setTop (mkF m 138 #[.val (.long p1), .second, .val (.long p2), .second, .val (.int p3), .val (.int p4), .val (.int p5), .val (.long sb), .second, .val (.int la), .val (.int a0_), .val (.int a1_), .val (.int lb), .val (.int e0_), .val (.int e1_), .val (.ref wW), .val (.ref wR), .unset, .unset, .unset, .unset, .unset, .unset] [])) _
          exact k
        exact hseg1 T6 _ _ _ wW wR (X6.more (by decide) (by decide)) e6 N hS hk hZ hown M
      · refine own_go (B := T5.setTop (mkF m 127 #[.val (.long p1), .second, .val (.long p2), .second, .val (.int p3), .val (.int p4), .val (.int p5), .val (.long sb), .second, .val (.int la), .val (.int a0_), .val (.int a1_), .val (.int lb), .val (.int e0_), .val (.int e1_), .val (.ref wW), .unset, .unset, .unset, .unset, .unset, .unset, .unset] [])) (fun t k => ?_) ?_
        · show Steps p.tables e below (T5.setTop (mkF m 124 #[.val (.long p1), .second, .val (.long p2), .second, .val (.int p3), .val (.int p4), .val (.int p5), .val (.long sb), .second, .val (.int la), .val (.int a0_), .val (.int a1_), .val (.int lb), .val (.int e0_), .val (.int e1_), .val (.ref wW), .unset, .unset, .unset, .unset, .unset, .unset, .unset] [(.int (p5 &&& (8 : Int32)))])) _
          refine XS.ifNo X5.here hx rfl (hb hby at_124) rfl ((if0 _ _).trans (feq g2).1) ?_
          show Steps p.tables e below (T5.setTop (mkF m 127 #[.val (.long p1), .second, .val (.long p2), .second, .val (.int p3), .val (.int p4), .val (.int p5), .val (.long sb), .second, .val (.int la), .val (.int a0_), .val (.int a1_), .val (.int lb), .val (.int e0_), .val (.int e1_), .val (.ref wW), .unset, .unset, .unset, .unset, .unset, .unset, .unset] [])) _
          exact k
        obtain ⟨T7, X7, e7, st7⟩ := getS2 X5 hx hZ hown (host := "") (Or.inl (hw _ (List.mem_of_getElem? (i := 52) rfl))) Via.refl e5 (S_W.ext O.2) (g := (mkF m 127 #[.val (.long p1), .second, .val (.long p2), .second, .val (.int p3), .val (.int p4), .val (.int p5), .val (.long sb), .second, .val (.int la), .val (.int a0_), .val (.int a1_), .val (.int lb), .val (.int e0_), .val (.int e1_), .val (.ref wW), .unset, .unset, .unset, .unset, .unset, .unset, .unset] [])) rfl (hb hby at_127)
        refine own_go (B := T7.setTop (mkF m 130 #[.val (.long p1), .second, .val (.long p2), .second, .val (.int p3), .val (.int p4), .val (.int p5), .val (.long sb), .second, .val (.int la), .val (.int a0_), .val (.int a1_), .val (.int lb), .val (.int e0_), .val (.int e1_), .val (.ref wW), .unset, .unset, .unset, .unset, .unset, .unset, .unset] [(.ref wW)])) st7 ?_
        refine own_go (B := T7.setTop (mkF m 138 #[.val (.long p1), .second, .val (.long p2), .second, .val (.int p3), .val (.int p4), .val (.int p5), .val (.long sb), .second, .val (.int la), .val (.int a0_), .val (.int a1_), .val (.int lb), .val (.int e0_), .val (.int e1_), .val (.ref wW), .val (.ref wW), .unset, .unset, .unset, .unset, .unset, .unset] [])) (fun t k => ?_) ?_
        · show Steps p.tables e below (T7.setTop (mkF m 130 #[.val (.long p1), .second, .val (.long p2), .second, .val (.int p3), .val (.int p4), .val (.int p5), .val (.long sb), .second, .val (.int la), .val (.int a0_), .val (.int a1_), .val (.int lb), .val (.int e0_), .val (.int e1_), .val (.ref wW), .unset, .unset, .unset, .unset, .unset, .unset, .unset] [(.ref wW)])) _
          refine XS.goto X7.here hx rfl (pc0 := 130) (pc' := 136) rfl (hb hby at_130) (by decide) (by decide) ?_
          show Steps p.tables e below (T7.setTop (mkF m 136 #[.val (.long p1), .second, .val (.long p2), .second, .val (.int p3), .val (.int p4), .val (.int p5), .val (.long sb), .second, .val (.int la), .val (.int a0_), .val (.int a1_), .val (.int lb), .val (.int e0_), .val (.int e1_), .val (.ref wW), .unset, .unset, .unset, .unset, .unset, .unset, .unset] [(.ref wW)])) _
          refine XS.astore X7.here hx rfl (hb hby at_136) rfl rfl (l' := #[.val (.long p1), .second, .val (.long p2), .second, .val (.int p3), .val (.int p4), .val (.int p5), .val (.long sb), .second, .val (.int la), .val (.int a0_), .val (.int a1_), .val (.int lb), .val (.int e0_), .val (.int e1_), .val (.ref wW), .val (.ref wW), .unset, .unset, .unset, .unset, .unset, .unset]) rfl ?_
          show Steps p.tables e below (T7.setTop (mkF m 138 #[.val (.long p1), .second, .val (.long p2), .second, .val (.int p3), .val (.int p4), .val (.int p5), .val (.long sb), .second, .val (.int la), .val (.int a0_), .val (.int a1_), .val (.int lb), .val (.int e0_), .val (.int e1_), .val (.ref wW), .val (.ref wW), .unset, .unset, .unset, .unset, .unset, .unset] [])) _
          exact k
        exact hseg1 T7 _ _ _ wW wW (X7.more (by decide) (by decide)) e7 N hS hk hZ hown M
  intro T1 vm1 kk1 L1 wa1 wb1 X1 e1 N hS hk hZ hown M
  have KM : Keep h0 h0 [] := Keep.refl _ _
  obtain ⟨T8, h8, X8, e8, E8, A8, D8, -, st8⟩ := newO X1 hx hZ hown (hw _ (List.mem_of_getElem? (i := 3) rfl)) (hw _ (List.mem_of_getElem? (i := 4) rfl)) (hw _ (List.mem_of_getElem? (i := 5) rfl)) e1 (g := (mkF m 138 #[.val (.long p1), .second, .val (.long p2), .second, .val (.int p3), .val (.int p4), .val (.int p5), .val (.long sb), .second, .val (.int la), .val (.int a0_), .val (.int a1_), .val (.int lb), .val (.int e0_), .val (.int e1_), .val (.ref wa1), .val (.ref wb1), .unset, .unset, .unset, .unset, .unset, .unset] [])) rfl (hb hby at_138) (by decide) (by decide)
  obtain ⟨b8, g8⟩ : ∃ z, z = h0.size := ⟨_, rfl⟩
  rw [← g8] at A8 D8 st8
  have g_b8 : n0 ≤ b8 := Nat.le_trans (own_oldsz O) (Nat.le_of_eq g8.symm)
  have m_b8_8 : h0.size ≤ b8 := Nat.le_trans KM.1 (Nat.le_of_eq g8.symm)
  replace O := O.ext E8
  replace hk := Nat.le_trans hk E8.1
  replace KM := KM.ext E8
  have F8_name : Fld Z h8 b8 "com/example/lockline/lockline/Contender" "name" "Ljava/lang/String;" .null := D8 (Or.inr (hw _ (List.mem_of_getElem? (i := 42) rfl))) (ty := (.object "java/lang/String")) (by decide)
  have F8_kind : Fld Z h8 b8 "com/example/lockline/lockline/Contender" "kind" "Lcom/example/lockline/lockline/Contender$Kind;" .null := D8 (Or.inr (hw _ (List.mem_of_getElem? (i := 44) rfl))) (ty := (.object "com/example/lockline/lockline/Contender$Kind")) (by decide)
  have F8_sequence : Fld Z h8 b8 "com/example/lockline/lockline/Contender" "sequence" "J" (.long (0 : Int64)) := D8 (Or.inr (hw _ (List.mem_of_getElem? (i := 46) rfl))) (ty := .long) (by decide)
  refine own_go (B := T8.setTop (mkF m 141 #[.val (.long p1), .second, .val (.long p2), .second, .val (.int p3), .val (.int p4), .val (.int p5), .val (.long sb), .second, .val (.int la), .val (.int a0_), .val (.int a1_), .val (.int lb), .val (.int e0_), .val (.int e1_), .val (.ref wa1), .val (.ref wb1), .unset, .unset, .unset, .unset, .unset, .unset] [(.ref b8)])) st8 ?_
  refine own_go (B := T8.setTop (mkF m 148 #[.val (.long p1), .second, .val (.long p2), .second, .val (.int p3), .val (.int p4), .val (.int p5), .val (.long sb), .second, .val (.int la), .val (.int a0_), .val (.int a1_), .val (.int lb), .val (.int e0_), .val (.int e1_), .val (.ref wa1), .val (.ref wb1), .unset, .unset, .unset, .unset, .unset, .unset] [(.int a1_), (.int a0_), (.int la), (.ref b8), (.ref b8)])) (fun t k => ?_) ?_
  · show Steps p.tables e below (T8.setTop (mkF m 141 #[.val (.long p1), .second, .val (.long p2), .second, .val (.int p3), .val (.int p4), .val (.int p5), .val (.long sb), .second, .val (.int la), .val (.int a0_), .val (.int a1_), .val (.int lb), .val (.int e0_), .val (.int e1_), .val (.ref wa1), .val (.ref wb1), .unset, .unset, .unset, .unset, .unset, .unset] [(.ref b8)])) _
    refine XS.dup X8.here hx rfl (hb hby at_141) rfl rfl ?_
    show Steps p.tables e below (T8.setTop (mkF m 142 #[.val (.long p1), .second, .val (.long p2), .second, .val (.int p3), .val (.int p4), .val (.int p5), .val (.long sb), .second, .val (.int la), .val (.int a0_), .val (.int a1_), .val (.int lb), .val (.int e0_), .val (.int e1_), .val (.ref wa1), .val (.ref wb1), .unset, .unset, .unset, .unset, .unset, .unset] [(.ref b8), (.ref b8)])) _
    refine XS.iload X8.here hx rfl (hb hby at_142) rfl ?_
    show Steps p.tables e below (T8.setTop (mkF m 144 #[.val (.long p1), .second, .val (.long p2), .second, .val (.int p3), .val (.int p4), .val (.int p5), .val (.long sb), .second, .val (.int la), .val (.int a0_), .val (.int a1_), .val (.int lb), .val (.int e0_), .val (.int e1_), .val (.ref wa1), .val (.ref wb1), .unset, .unset, .unset, .unset, .unset, .unset] [(.int la), (.ref b8), (.ref b8)])) _
    refine XS.iload X8.here hx rfl (hb hby at_144) rfl ?_
    show Steps p.tables e below (T8.setTop (mkF m 146 #[.val (.long p1), .second, .val (.long p2), .second, .val (.int p3), .val (.int p4), .val (.int p5), .val (.long sb), .second, .val (.int la), .val (.int a0_), .val (.int a1_), .val (.int lb), .val (.int e0_), .val (.int e1_), .val (.ref wa1), .val (.ref wb1), .unset, .unset, .unset, .unset, .unset, .unset] [(.int a0_), (.int la), (.ref b8), (.ref b8)])) _
    refine XS.iload X8.here hx rfl (hb hby at_146) rfl ?_
    show Steps p.tables e below (T8.setTop (mkF m 148 #[.val (.long p1), .second, .val (.long p2), .second, .val (.int p3), .val (.int p4), .val (.int p5), .val (.long sb), .second, .val (.int la), .val (.int a0_), .val (.int a1_), .val (.int lb), .val (.int e0_), .val (.int e1_), .val (.ref wa1), .val (.ref wb1), .unset, .unset, .unset, .unset, .unset, .unset] [(.int a1_), (.int a0_), (.int la), (.ref b8), (.ref b8)])) _
    exact k
  -- pc 148: com/example/lockline/lockline/ContenderIsAheadOfPinLaw.mk
  obtain ⟨_, _, ⟨T9, L9, k9, n9⟩, -, X9, hSq9, hgq9, ⟨Lc9, hQ9, l9, y9, z9⟩, st9⟩ := callSS X8 hx (y := (⟨"com/example/lockline/lockline/ContenderIsAheadOfPinLaw", "mk", "(ICC)Ljava/lang/String;"⟩ : MethodName)) hown (mvT hZ (hw _ (List.mem_of_getElem? (i := 6) rfl))) (mvT hZ (hw _ (List.mem_of_getElem? (i := 7) rfl))) (mvT hZ (hw _ (List.mem_of_getElem? (i := 8) rfl))) (mvT hZ (hw _ (List.mem_of_getElem? (i := 9) rfl))) (by decide) (own_backOfE (W := 2) (rmMk l Z a0 hw [] la a0_ a1_ zc h8 n0 O S_C hcs hcH hcw ba0_ ba1_) hZ (hw _ (List.mem_of_getElem? (i := 9) rfl)) (hw _ (List.mem_of_getElem? (i := 8) rfl)) (by decide) (by decide)) (g := (mkF m 148 #[.val (.long p1), .second, .val (.long p2), .second, .val (.int p3), .val (.int p4), .val (.int p5), .val (.long sb), .second, .val (.int la), .val (.int a0_), .val (.int a1_), .val (.int lb), .val (.int e0_), .val (.int e1_), .val (.ref wa1), .val (.ref wb1), .unset, .unset, .unset, .unset, .unset, .unset] [(.int a1_), (.int a0_), (.int la), (.ref b8), (.ref b8)])) rfl (by rw [hml]; rfl) (argsL := [(.int la), (.int a0_), (.int a1_)]) (rest := [(.ref b8), (.ref b8)]) (lenOf pd_14 rfl) rfl (by show 2 * 0 + _ ≤ _; exact Nat.le_of_eq rfl) (hb hby at_148) (fun _ hWm => ⟨rfl, e8, (by decide : 1 + 4 ≤ _), (by decide : 3 + 8 ≤ _), Em.warm (M.keep KM) hWm⟩)
  dsimp only [Pt.U, Pt.locs, Pt.cells, Pt.slots] at X9 l9 y9 z9 st9 hQ9 hSq9 hgq9
  subst l9 y9 z9
  obtain ⟨X9, hS, hZ, hown⟩ := rebS hS (by rw [e8]; exact hk) X9 hSq9 hgq9 hZ hown
  obtain ⟨⟨r9, t9, k9, cs9, rfl, Nq9, Kq9, fq9_r, Gq9_0, Gq9_1, Gq9_2, Gq9_3, cq9_0, cq9_1, cq9_2⟩, M⟩ := hQ9
  replace N := Fr.app N Nq9
  have lt_b8_r9 : b8 < r9 := Nat.lt_of_lt_of_le A8.lt fq9_r
  have g_r9 : n0 ≤ r9 := Nat.le_trans (own_oldsz O) fq9_r
  have m_r9_9 : h0.size ≤ r9 := Nat.le_trans KM.1 fq9_r
  replace A8 := A8.keep Kq9
  replace F8_name := F8_name.keep Kq9 nin0
  replace F8_kind := F8_kind.keep Kq9 nin0
  replace F8_sequence := F8_sequence.keep Kq9 nin0
  replace O := O.keep Kq9 all0
  have hk : T9.heap.size ≤ T9.heap.size := Nat.le_refl _
  have KM : Keep T9.heap T9.heap [] := Keep.refl _ _
  refine own_go (B := T9.setTop (mkF m 151 #[.val (.long p1), .second, .val (.long p2), .second, .val (.int p3), .val (.int p4), .val (.int p5), .val (.long sb), .second, .val (.int la), .val (.int a0_), .val (.int a1_), .val (.int lb), .val (.int e0_), .val (.int e1_), .val (.ref wa1), .val (.ref wb1), .unset, .unset, .unset, .unset, .unset, .unset] [(.ref r9), (.ref b8), (.ref b8)])) (fun t k => st9.trans k) ?_
  have ne_t9_b8 : t9 ≠ b8 := Ne.symm (A8.neArv Gq9_3 (hw _ (List.mem_of_getElem? (i := 4) rfl)))
  refine own_go (B := T9.setTop (mkF m 154 #[.val (.long p1), .second, .val (.long p2), .second, .val (.int p3), .val (.int p4), .val (.int p5), .val (.long sb), .second, .val (.int la), .val (.int a0_), .val (.int a1_), .val (.int lb), .val (.int e0_), .val (.int e1_), .val (.ref wa1), .val (.ref wb1), .unset, .unset, .unset, .unset, .unset, .unset] [(.long p1), (.ref wa1), (.ref r9), (.ref b8), (.ref b8)])) (fun t k => ?_) ?_
  · show Steps p.tables e below (T9.setTop (mkF m 151 #[.val (.long p1), .second, .val (.long p2), .second, .val (.int p3), .val (.int p4), .val (.int p5), .val (.long sb), .second, .val (.int la), .val (.int a0_), .val (.int a1_), .val (.int lb), .val (.int e0_), .val (.int e1_), .val (.ref wa1), .val (.ref wb1), .unset, .unset, .unset, .unset, .unset, .unset] [(.ref r9), (.ref b8), (.ref b8)])) _
    refine XS.aload X9.here hx rfl (hb hby at_151) rfl rfl ?_
    show Steps p.tables e below (T9.setTop (mkF m 153 #[.val (.long p1), .second, .val (.long p2), .second, .val (.int p3), .val (.int p4), .val (.int p5), .val (.long sb), .second, .val (.int la), .val (.int a0_), .val (.int a1_), .val (.int lb), .val (.int e0_), .val (.int e1_), .val (.ref wa1), .val (.ref wb1), .unset, .unset, .unset, .unset, .unset, .unset] [(.ref wa1), (.ref r9), (.ref b8), (.ref b8)])) _
    refine XS.lloadN X9.here hx rfl (hb hby at_153) rfl ?_
    show Steps p.tables e below (T9.setTop (mkF m 154 #[.val (.long p1), .second, .val (.long p2), .second, .val (.int p3), .val (.int p4), .val (.int p5), .val (.long sb), .second, .val (.int la), .val (.int a0_), .val (.int a1_), .val (.int lb), .val (.int e0_), .val (.int e1_), .val (.ref wa1), .val (.ref wb1), .unset, .unset, .unset, .unset, .unset, .unset] [(.long p1), (.ref wa1), (.ref r9), (.ref b8), (.ref b8)])) _
    exact k
  -- pc 154: com/example/lockline/lockline/Contender.<init>
  obtain ⟨_, _, ⟨T10, L10, k10, n10⟩, -, X10, ⟨Lc10, hQ10, l10, y10, z10⟩, st10⟩ := X9.specialBack hx (y := (⟨"com/example/lockline/lockline/Contender", "<init>", "(Ljava/lang/String;Lcom/example/lockline/lockline/Contender$Kind;J)V"⟩ : MethodName)) rfl hown (mvT hZ (hw _ (List.mem_of_getElem? (i := 32) rfl))) (mvT hZ (hw _ (List.mem_of_getElem? (i := 33) rfl))) (mvT hZ (hw _ (List.mem_of_getElem? (i := 34) rfl))) (by decide) (backOf (W := 1) (rmCtI l Z a0 hw [] b8 r9 wa1 p1 T9.heap n0 O A8 F8_name F8_kind F8_sequence g_b8) hZ (hw _ (List.mem_of_getElem? (i := 34) rfl)) (hw _ (List.mem_of_getElem? (i := 5) rfl)) (by decide) (by decide)) (g := (mkF m 154 #[.val (.long p1), .second, .val (.long p2), .second, .val (.int p3), .val (.int p4), .val (.int p5), .val (.long sb), .second, .val (.int la), .val (.int a0_), .val (.int a1_), .val (.int lb), .val (.int e0_), .val (.int e1_), .val (.ref wa1), .val (.ref wb1), .unset, .unset, .unset, .unset, .unset, .unset] [(.long p1), (.ref wa1), (.ref r9), (.ref b8), (.ref b8)])) rfl (by rw [hml]; rfl) (Steps.refl _) (a := b8) (argsL := [(.ref r9), (.ref wa1), (.long p1)]) (rest := [(.ref b8)]) (lenOf pd_15 rfl) rfl (by show 2 * 0 + _ ≤ _; exact Nat.le_of_eq rfl) (hb hby at_154) (fun _ hWm => ⟨rfl, rfl, (by decide : 5 + 0 ≤ _), (by decide : 11 + 0 ≤ _)⟩)
  dsimp only [Pt.U, Pt.locs, Pt.cells, Pt.slots] at X10 l10 y10 z10 st10 hQ10
  subst l10 y10 z10
  obtain ⟨rfl, Nq10, Kq10, Gq10_0, Gq10_1⟩ := hQ10
  replace N := Fr.app N Nq10
  replace M := M.keepO Kq10 A8 (hw _ (List.mem_of_getElem? (i := 4) rfl)) (by decide)
  replace A8 := A8.keep Kq10
  clear F8_name
  clear F8_kind
  clear F8_sequence
  replace Gq9_0 := Gq9_0.keep Kq10
  replace Gq9_1 := Gq9_1.keep Kq10 (ninS (Nat.ne_of_gt lt_b8_r9) nin0)
  replace Gq9_2 := Gq9_2.keep Kq10 (ninS (Nat.ne_of_gt lt_b8_r9) nin0)
  replace Gq9_3 := Gq9_3.keep Kq10 (ninS ne_t9_b8 nin0)
  replace O := O.keep Kq10 (allS g_b8 all0)
  replace hk := Nat.le_trans hk Kq10.1
  have KM : Keep T10.heap T10.heap [] := Keep.refl _ _
  refine own_go (B := T10.setTop (mkF m 157 #[.val (.long p1), .second, .val (.long p2), .second, .val (.int p3), .val (.int p4), .val (.int p5), .val (.long sb), .second, .val (.int la), .val (.int a0_), .val (.int a1_), .val (.int lb), .val (.int e0_), .val (.int e1_), .val (.ref wa1), .val (.ref wb1), .unset, .unset, .unset, .unset, .unset, .unset] [(.ref b8)])) (fun t k => st10.trans k) ?_
  refine own_go (B := T10.setTop (mkF m 159 #[.val (.long p1), .second, .val (.long p2), .second, .val (.int p3), .val (.int p4), .val (.int p5), .val (.long sb), .second, .val (.int la), .val (.int a0_), .val (.int a1_), .val (.int lb), .val (.int e0_), .val (.int e1_), .val (.ref wa1), .val (.ref wb1), .val (.ref b8), .unset, .unset, .unset, .unset, .unset] [])) (fun t k => ?_) ?_
  · show Steps p.tables e below (T10.setTop (mkF m 157 #[.val (.long p1), .second, .val (.long p2), .second, .val (.int p3), .val (.int p4), .val (.int p5), .val (.long sb), .second, .val (.int la), .val (.int a0_), .val (.int a1_), .val (.int lb), .val (.int e0_), .val (.int e1_), .val (.ref wa1), .val (.ref wb1), .unset, .unset, .unset, .unset, .unset, .unset] [(.ref b8)])) _
    refine XS.astore X10.here hx rfl (hb hby at_157) rfl rfl (l' := #[.val (.long p1), .second, .val (.long p2), .second, .val (.int p3), .val (.int p4), .val (.int p5), .val (.long sb), .second, .val (.int la), .val (.int a0_), .val (.int a1_), .val (.int lb), .val (.int e0_), .val (.int e1_), .val (.ref wa1), .val (.ref wb1), .val (.ref b8), .unset, .unset, .unset, .unset, .unset]) rfl ?_
    show Steps p.tables e below (T10.setTop (mkF m 159 #[.val (.long p1), .second, .val (.long p2), .second, .val (.int p3), .val (.int p4), .val (.int p5), .val (.long sb), .second, .val (.int la), .val (.int a0_), .val (.int a1_), .val (.int lb), .val (.int e0_), .val (.int e1_), .val (.ref wa1), .val (.ref wb1), .val (.ref b8), .unset, .unset, .unset, .unset, .unset] [])) _
    exact k
  obtain ⟨T11, h11, X11, e11, E11, A11, D11, -, st11⟩ := newO X10 hx hZ hown (hw _ (List.mem_of_getElem? (i := 3) rfl)) (hw _ (List.mem_of_getElem? (i := 4) rfl)) (hw _ (List.mem_of_getElem? (i := 5) rfl)) rfl (g := (mkF m 159 #[.val (.long p1), .second, .val (.long p2), .second, .val (.int p3), .val (.int p4), .val (.int p5), .val (.long sb), .second, .val (.int la), .val (.int a0_), .val (.int a1_), .val (.int lb), .val (.int e0_), .val (.int e1_), .val (.ref wa1), .val (.ref wb1), .val (.ref b8), .unset, .unset, .unset, .unset, .unset] [])) rfl (hb hby at_159) (by decide) (by decide)
  obtain ⟨b11, g11⟩ : ∃ z, z = T10.heap.size := ⟨_, rfl⟩
  rw [← g11] at A11 D11 st11
  have lt_b8_b11 : b8 < b11 := Nat.lt_of_lt_of_le A8.lt (Nat.le_of_eq g11.symm)
  have lt_r9_b11 : r9 < b11 := Nat.lt_of_lt_of_le Gq9_0.lt (Nat.le_of_eq g11.symm)
  have lt_t9_b11 : t9 < b11 := Nat.lt_of_lt_of_le Gq9_3.lt (Nat.le_of_eq g11.symm)
  have g_b11 : n0 ≤ b11 := Nat.le_trans (own_oldsz O) (Nat.le_of_eq g11.symm)
  have m_b11_11 : T10.heap.size ≤ b11 := Nat.le_trans KM.1 (Nat.le_of_eq g11.symm)
  replace A8 := A8.ext E11
  replace Gq9_0 := Gq9_0.ext E11
  replace Gq9_1 := Gq9_1.ext E11
  replace Gq9_2 := Gq9_2.ext E11
  replace Gq9_3 := Gq9_3.ext E11
  replace Gq10_0 := Gq10_0.ext E11
  replace Gq10_1 := Gq10_1.ext E11
  replace O := O.ext E11
  replace hk := Nat.le_trans hk E11.1
  replace KM := KM.ext E11
  have F11_name : Fld Z h11 b11 "com/example/lockline/lockline/Contender" "name" "Ljava/lang/String;" .null := D11 (Or.inr (hw _ (List.mem_of_getElem? (i := 42) rfl))) (ty := (.object "java/lang/String")) (by decide)
  have F11_kind : Fld Z h11 b11 "com/example/lockline/lockline/Contender" "kind" "Lcom/example/lockline/lockline/Contender$Kind;" .null := D11 (Or.inr (hw _ (List.mem_of_getElem? (i := 44) rfl))) (ty := (.object "com/example/lockline/lockline/Contender$Kind")) (by decide)
  have F11_sequence : Fld Z h11 b11 "com/example/lockline/lockline/Contender" "sequence" "J" (.long (0 : Int64)) := D11 (Or.inr (hw _ (List.mem_of_getElem? (i := 46) rfl))) (ty := .long) (by decide)
  refine own_go (B := T11.setTop (mkF m 162 #[.val (.long p1), .second, .val (.long p2), .second, .val (.int p3), .val (.int p4), .val (.int p5), .val (.long sb), .second, .val (.int la), .val (.int a0_), .val (.int a1_), .val (.int lb), .val (.int e0_), .val (.int e1_), .val (.ref wa1), .val (.ref wb1), .val (.ref b8), .unset, .unset, .unset, .unset, .unset] [(.ref b11)])) st11 ?_
  refine own_go (B := T11.setTop (mkF m 169 #[.val (.long p1), .second, .val (.long p2), .second, .val (.int p3), .val (.int p4), .val (.int p5), .val (.long sb), .second, .val (.int la), .val (.int a0_), .val (.int a1_), .val (.int lb), .val (.int e0_), .val (.int e1_), .val (.ref wa1), .val (.ref wb1), .val (.ref b8), .unset, .unset, .unset, .unset, .unset] [(.int e1_), (.int e0_), (.int lb), (.ref b11), (.ref b11)])) (fun t k => ?_) ?_
  · show Steps p.tables e below (T11.setTop (mkF m 162 #[.val (.long p1), .second, .val (.long p2), .second, .val (.int p3), .val (.int p4), .val (.int p5), .val (.long sb), .second, .val (.int la), .val (.int a0_), .val (.int a1_), .val (.int lb), .val (.int e0_), .val (.int e1_), .val (.ref wa1), .val (.ref wb1), .val (.ref b8), .unset, .unset, .unset, .unset, .unset] [(.ref b11)])) _
    refine XS.dup X11.here hx rfl (hb hby at_162) rfl rfl ?_
    show Steps p.tables e below (T11.setTop (mkF m 163 #[.val (.long p1), .second, .val (.long p2), .second, .val (.int p3), .val (.int p4), .val (.int p5), .val (.long sb), .second, .val (.int la), .val (.int a0_), .val (.int a1_), .val (.int lb), .val (.int e0_), .val (.int e1_), .val (.ref wa1), .val (.ref wb1), .val (.ref b8), .unset, .unset, .unset, .unset, .unset] [(.ref b11), (.ref b11)])) _
    refine XS.iload X11.here hx rfl (hb hby at_163) rfl ?_
    show Steps p.tables e below (T11.setTop (mkF m 165 #[.val (.long p1), .second, .val (.long p2), .second, .val (.int p3), .val (.int p4), .val (.int p5), .val (.long sb), .second, .val (.int la), .val (.int a0_), .val (.int a1_), .val (.int lb), .val (.int e0_), .val (.int e1_), .val (.ref wa1), .val (.ref wb1), .val (.ref b8), .unset, .unset, .unset, .unset, .unset] [(.int lb), (.ref b11), (.ref b11)])) _
    refine XS.iload X11.here hx rfl (hb hby at_165) rfl ?_
    show Steps p.tables e below (T11.setTop (mkF m 167 #[.val (.long p1), .second, .val (.long p2), .second, .val (.int p3), .val (.int p4), .val (.int p5), .val (.long sb), .second, .val (.int la), .val (.int a0_), .val (.int a1_), .val (.int lb), .val (.int e0_), .val (.int e1_), .val (.ref wa1), .val (.ref wb1), .val (.ref b8), .unset, .unset, .unset, .unset, .unset] [(.int e0_), (.int lb), (.ref b11), (.ref b11)])) _
    refine XS.iload X11.here hx rfl (hb hby at_167) rfl ?_
    show Steps p.tables e below (T11.setTop (mkF m 169 #[.val (.long p1), .second, .val (.long p2), .second, .val (.int p3), .val (.int p4), .val (.int p5), .val (.long sb), .second, .val (.int la), .val (.int a0_), .val (.int a1_), .val (.int lb), .val (.int e0_), .val (.int e1_), .val (.ref wa1), .val (.ref wb1), .val (.ref b8), .unset, .unset, .unset, .unset, .unset] [(.int e1_), (.int e0_), (.int lb), (.ref b11), (.ref b11)])) _
    exact k
  -- pc 169: com/example/lockline/lockline/ContenderIsAheadOfPinLaw.mk
  obtain ⟨_, _, ⟨T12, L12, k12, n12⟩, -, X12, hSq12, hgq12, ⟨Lc12, hQ12, l12, y12, z12⟩, st12⟩ := callSS X11 hx (y := (⟨"com/example/lockline/lockline/ContenderIsAheadOfPinLaw", "mk", "(ICC)Ljava/lang/String;"⟩ : MethodName)) hown (mvT hZ (hw _ (List.mem_of_getElem? (i := 6) rfl))) (mvT hZ (hw _ (List.mem_of_getElem? (i := 7) rfl))) (mvT hZ (hw _ (List.mem_of_getElem? (i := 8) rfl))) (mvT hZ (hw _ (List.mem_of_getElem? (i := 9) rfl))) (by decide) (own_backOfE (W := 2) (rmMk l Z a0 hw [] lb e0_ e1_ zc h11 n0 O S_C hcs hcH hcw be0_ be1_) hZ (hw _ (List.mem_of_getElem? (i := 9) rfl)) (hw _ (List.mem_of_getElem? (i := 8) rfl)) (by decide) (by decide)) (g := (mkF m 169 #[.val (.long p1), .second, .val (.long p2), .second, .val (.int p3), .val (.int p4), .val (.int p5), .val (.long sb), .second, .val (.int la), .val (.int a0_), .val (.int a1_), .val (.int lb), .val (.int e0_), .val (.int e1_), .val (.ref wa1), .val (.ref wb1), .val (.ref b8), .unset, .unset, .unset, .unset, .unset] [(.int e1_), (.int e0_), (.int lb), (.ref b11), (.ref b11)])) rfl (by rw [hml]; rfl) (argsL := [(.int lb), (.int e0_), (.int e1_)]) (rest := [(.ref b11), (.ref b11)]) (lenOf pd_14 rfl) rfl (by show 2 * 0 + _ ≤ _; exact Nat.le_of_eq rfl) (hb hby at_169) (fun _ hWm => ⟨rfl, e11, (by decide : 6 + 4 ≤ _), (by decide : 14 + 8 ≤ _), Em.warm (M.keep KM) hWm⟩)
  dsimp only [Pt.U, Pt.locs, Pt.cells, Pt.slots] at X12 l12 y12 z12 st12 hQ12 hSq12 hgq12
  subst l12 y12 z12
  obtain ⟨X12, hS, hZ, hown⟩ := rebS hS (by rw [e11]; exact hk) X12 hSq12 hgq12 hZ hown
  obtain ⟨⟨r12, t12, k12, cs12, rfl, Nq12, Kq12, fq12_r, Gq12_0, Gq12_1, Gq12_2, Gq12_3, cq12_0, cq12_1, cq12_2⟩, M⟩ := hQ12
  replace N := Fr.app N Nq12
  have lt_b8_r12 : b8 < r12 := Nat.lt_of_lt_of_le A8.lt fq12_r
  have lt_r9_r12 : r9 < r12 := Nat.lt_of_lt_of_le Gq9_0.lt fq12_r
  have lt_t9_r12 : t9 < r12 := Nat.lt_of_lt_of_le Gq9_3.lt fq12_r
  have lt_b11_r12 : b11 < r12 := Nat.lt_of_lt_of_le A11.lt fq12_r
  have g_r12 : n0 ≤ r12 := Nat.le_trans (own_oldsz O) fq12_r
  have m_r12_12 : T10.heap.size ≤ r12 := Nat.le_trans KM.1 fq12_r
  replace A8 := A8.keep Kq12
  replace Gq9_0 := Gq9_0.keep Kq12
  replace Gq9_1 := Gq9_1.keep Kq12 nin0
  replace Gq9_2 := Gq9_2.keep Kq12 nin0
  replace Gq9_3 := Gq9_3.keep Kq12 nin0
  replace Gq10_0 := Gq10_0.keep Kq12 nin0
  replace Gq10_1 := Gq10_1.keep Kq12 nin0
  replace A11 := A11.keep Kq12
  replace F11_name := F11_name.keep Kq12 nin0
  replace F11_kind := F11_kind.keep Kq12 nin0
  replace F11_sequence := F11_sequence.keep Kq12 nin0
  replace O := O.keep Kq12 all0
  have hk : T12.heap.size ≤ T12.heap.size := Nat.le_refl _
  have KM : Keep T12.heap T12.heap [] := Keep.refl _ _
  refine own_go (B := T12.setTop (mkF m 172 #[.val (.long p1), .second, .val (.long p2), .second, .val (.int p3), .val (.int p4), .val (.int p5), .val (.long sb), .second, .val (.int la), .val (.int a0_), .val (.int a1_), .val (.int lb), .val (.int e0_), .val (.int e1_), .val (.ref wa1), .val (.ref wb1), .val (.ref b8), .unset, .unset, .unset, .unset, .unset] [(.ref r12), (.ref b11), (.ref b11)])) (fun t k => st12.trans k) ?_
  have ne_t12_b8 : t12 ≠ b8 := Ne.symm (A8.neArv Gq12_3 (hw _ (List.mem_of_getElem? (i := 4) rfl)))
  have ne_t12_b11 : t12 ≠ b11 := Ne.symm (A11.neArv Gq12_3 (hw _ (List.mem_of_getElem? (i := 4) rfl)))
  refine own_go (B := T12.setTop (mkF m 176 #[.val (.long p1), .second, .val (.long p2), .second, .val (.int p3), .val (.int p4), .val (.int p5), .val (.long sb), .second, .val (.int la), .val (.int a0_), .val (.int a1_), .val (.int lb), .val (.int e0_), .val (.int e1_), .val (.ref wa1), .val (.ref wb1), .val (.ref b8), .unset, .unset, .unset, .unset, .unset] [(.long sb), (.ref wb1), (.ref r12), (.ref b11), (.ref b11)])) (fun t k => ?_) ?_
  · show Steps p.tables e below (T12.setTop (mkF m 172 #[.val (.long p1), .second, .val (.long p2), .second, .val (.int p3), .val (.int p4), .val (.int p5), .val (.long sb), .second, .val (.int la), .val (.int a0_), .val (.int a1_), .val (.int lb), .val (.int e0_), .val (.int e1_), .val (.ref wa1), .val (.ref wb1), .val (.ref b8), .unset, .unset, .unset, .unset, .unset] [(.ref r12), (.ref b11), (.ref b11)])) _
    refine XS.aload X12.here hx rfl (hb hby at_172) rfl rfl ?_
    show Steps p.tables e below (T12.setTop (mkF m 174 #[.val (.long p1), .second, .val (.long p2), .second, .val (.int p3), .val (.int p4), .val (.int p5), .val (.long sb), .second, .val (.int la), .val (.int a0_), .val (.int a1_), .val (.int lb), .val (.int e0_), .val (.int e1_), .val (.ref wa1), .val (.ref wb1), .val (.ref b8), .unset, .unset, .unset, .unset, .unset] [(.ref wb1), (.ref r12), (.ref b11), (.ref b11)])) _
    refine XS.lload X12.here hx rfl (hb hby at_174) rfl ?_
    show Steps p.tables e below (T12.setTop (mkF m 176 #[.val (.long p1), .second, .val (.long p2), .second, .val (.int p3), .val (.int p4), .val (.int p5), .val (.long sb), .second, .val (.int la), .val (.int a0_), .val (.int a1_), .val (.int lb), .val (.int e0_), .val (.int e1_), .val (.ref wa1), .val (.ref wb1), .val (.ref b8), .unset, .unset, .unset, .unset, .unset] [(.long sb), (.ref wb1), (.ref r12), (.ref b11), (.ref b11)])) _
    exact k
  -- pc 176: com/example/lockline/lockline/Contender.<init>
  obtain ⟨_, _, ⟨T13, L13, k13, n13⟩, -, X13, ⟨Lc13, hQ13, l13, y13, z13⟩, st13⟩ := X12.specialBack hx (y := (⟨"com/example/lockline/lockline/Contender", "<init>", "(Ljava/lang/String;Lcom/example/lockline/lockline/Contender$Kind;J)V"⟩ : MethodName)) rfl hown (mvT hZ (hw _ (List.mem_of_getElem? (i := 32) rfl))) (mvT hZ (hw _ (List.mem_of_getElem? (i := 33) rfl))) (mvT hZ (hw _ (List.mem_of_getElem? (i := 34) rfl))) (by decide) (backOf (W := 1) (rmCtI l Z a0 hw [] b11 r12 wb1 sb T12.heap n0 O A11 F11_name F11_kind F11_sequence g_b11) hZ (hw _ (List.mem_of_getElem? (i := 34) rfl)) (hw _ (List.mem_of_getElem? (i := 5) rfl)) (by decide) (by decide)) (g := (mkF m 176 #[.val (.long p1), .second, .val (.long p2), .second, .val (.int p3), .val (.int p4), .val (.int p5), .val (.long sb), .second, .val (.int la), .val (.int a0_), .val (.int a1_), .val (.int lb), .val (.int e0_), .val (.int e1_), .val (.ref wa1), .val (.ref wb1), .val (.ref b8), .unset, .unset, .unset, .unset, .unset] [(.long sb), (.ref wb1), (.ref r12), (.ref b11), (.ref b11)])) rfl (by rw [hml]; rfl) (Steps.refl _) (a := b11) (argsL := [(.ref r12), (.ref wb1), (.long sb)]) (rest := [(.ref b11)]) (lenOf pd_15 rfl) rfl (by show 2 * 0 + _ ≤ _; exact Nat.le_of_eq rfl) (hb hby at_176) (fun _ hWm => ⟨rfl, rfl, (by decide : 10 + 0 ≤ _), (by decide : 22 + 0 ≤ _)⟩)
  dsimp only [Pt.U, Pt.locs, Pt.cells, Pt.slots] at X13 l13 y13 z13 st13 hQ13
  subst l13 y13 z13
  obtain ⟨rfl, Nq13, Kq13, Gq13_0, Gq13_1⟩ := hQ13
  replace N := Fr.app N Nq13
  replace M := M.keepO Kq13 A11 (hw _ (List.mem_of_getElem? (i := 4) rfl)) (by decide)
  replace A8 := A8.keep Kq13
  replace Gq9_0 := Gq9_0.keep Kq13
  replace Gq9_1 := Gq9_1.keep Kq13 (ninS (Nat.ne_of_lt lt_r9_b11) nin0)
  replace Gq9_2 := Gq9_2.keep Kq13 (ninS (Nat.ne_of_lt lt_r9_b11) nin0)
  replace Gq9_3 := Gq9_3.keep Kq13 (ninS (Nat.ne_of_lt lt_t9_b11) nin0)
  replace Gq10_0 := Gq10_0.keep Kq13 (ninS (Nat.ne_of_lt lt_b8_b11) nin0)
  replace Gq10_1 := Gq10_1.keep Kq13 (ninS (Nat.ne_of_lt lt_b8_b11) nin0)
  replace A11 := A11.keep Kq13
  clear F11_name
  clear F11_kind
  clear F11_sequence
  replace Gq12_0 := Gq12_0.keep Kq13
  replace Gq12_1 := Gq12_1.keep Kq13 (ninS (Nat.ne_of_gt lt_b11_r12) nin0)
  replace Gq12_2 := Gq12_2.keep Kq13 (ninS (Nat.ne_of_gt lt_b11_r12) nin0)
  replace Gq12_3 := Gq12_3.keep Kq13 (ninS ne_t12_b11 nin0)
  replace O := O.keep Kq13 (allS g_b11 all0)
  replace hk := Nat.le_trans hk Kq13.1
  have KM : Keep T13.heap T13.heap [] := Keep.refl _ _
  refine own_go (B := T13.setTop (mkF m 179 #[.val (.long p1), .second, .val (.long p2), .second, .val (.int p3), .val (.int p4), .val (.int p5), .val (.long sb), .second, .val (.int la), .val (.int a0_), .val (.int a1_), .val (.int lb), .val (.int e0_), .val (.int e1_), .val (.ref wa1), .val (.ref wb1), .val (.ref b8), .unset, .unset, .unset, .unset, .unset] [(.ref b11)])) (fun t k => st13.trans k) ?_
  refine own_go (B := T13.setTop (mkF m 185 #[.val (.long p1), .second, .val (.long p2), .second, .val (.int p3), .val (.int p4), .val (.int p5), .val (.long sb), .second, .val (.int la), .val (.int a0_), .val (.int a1_), .val (.int lb), .val (.int e0_), .val (.int e1_), .val (.ref wa1), .val (.ref wb1), .val (.ref b8), .val (.ref b11), .unset, .unset, .unset, .unset] [(.ref b11), (.ref b8)])) (fun t k => ?_) ?_
  · show Steps p.tables e below (T13.setTop (mkF m 179 #[.val (.long p1), .second, .val (.long p2), .second, .val (.int p3), .val (.int p4), .val (.int p5), .val (.long sb), .second, .val (.int la), .val (.int a0_), .val (.int a1_), .val (.int lb), .val (.int e0_), .val (.int e1_), .val (.ref wa1), .val (.ref wb1), .val (.ref b8), .unset, .unset, .unset, .unset, .unset] [(.ref b11)])) _
    refine XS.astore X13.here hx rfl (hb hby at_179) rfl rfl (l' := #[.val (.long p1), .second, .val (.long p2), .second, .val (.int p3), .val (.int p4), .val (.int p5), .val (.long sb), .second, .val (.int la), .val (.int a0_), .val (.int a1_), .val (.int lb), .val (.int e0_), .val (.int e1_), .val (.ref wa1), .val (.ref wb1), .val (.ref b8), .val (.ref b11), .unset, .unset, .unset, .unset]) rfl ?_
    show Steps p.tables e below (T13.setTop (mkF m 181 #[.val (.long p1), .second, .val (.long p2), .second, .val (.int p3), .val (.int p4), .val (.int p5), .val (.long sb), .second, .val (.int la), .val (.int a0_), .val (.int a1_), .val (.int lb), .val (.int e0_), .val (.int e1_), .val (.ref wa1), .val (.ref wb1), .val (.ref b8), .val (.ref b11), .unset, .unset, .unset, .unset] [])) _
    refine XS.aload X13.here hx rfl (hb hby at_181) rfl rfl ?_
    show Steps p.tables e below (T13.setTop (mkF m 183 #[.val (.long p1), .second, .val (.long p2), .second, .val (.int p3), .val (.int p4), .val (.int p5), .val (.long sb), .second, .val (.int la), .val (.int a0_), .val (.int a1_), .val (.int lb), .val (.int e0_), .val (.int e1_), .val (.ref wa1), .val (.ref wb1), .val (.ref b8), .val (.ref b11), .unset, .unset, .unset, .unset] [(.ref b8)])) _
    refine XS.aload X13.here hx rfl (hb hby at_183) rfl rfl ?_
    show Steps p.tables e below (T13.setTop (mkF m 185 #[.val (.long p1), .second, .val (.long p2), .second, .val (.int p3), .val (.int p4), .val (.int p5), .val (.long sb), .second, .val (.int la), .val (.int a0_), .val (.int a1_), .val (.int lb), .val (.int e0_), .val (.int e1_), .val (.ref wa1), .val (.ref wb1), .val (.ref b8), .val (.ref b11), .unset, .unset, .unset, .unset] [(.ref b11), (.ref b8)])) _
    exact k
  -- pc 185: com/example/lockline/lockline/Contender.isAheadOf
  obtain ⟨cq14, kq14, q14a, q14b, q14c⟩ := isOf hZ rfl A8
  obtain ⟨_, _, ⟨T14, L14, k14, n14⟩, -, X14, ⟨Lc14, hQ14, l14, y14, z14⟩, st14⟩ := X13.virtualBack hx (y := (⟨"com/example/lockline/lockline/Contender", "isAheadOf", "(Lcom/example/lockline/lockline/Contender;)Z"⟩ : MethodName)) (z := (⟨"com/example/lockline/lockline/Contender", "isAheadOf", "(Lcom/example/lockline/lockline/Contender;)Z"⟩ : MethodName)) hown (mvT hZ (hw _ (List.mem_of_getElem? (i := 47) rfl))) (mvT hZ (hw _ (List.mem_of_getElem? (i := 48) rfl))) (notFace_of_selects (args := #[]) (mvT hZ (hw _ (List.mem_of_getElem? (i := 50) rfl)))) (mvT hZ (hw _ (List.mem_of_getElem? (i := 50) rfl))) (mvT hZ (hw _ (List.mem_of_getElem? (i := 49) rfl))) (by decide) (backOf (W := 0) (rmAhead l Z a0 hw [] b8 b11 p1 sb r9 r12 t9 t12 k9 k12 cs9 cs12 zc T13.heap n0 O Gq10_0 Gq10_1 Gq13_0 Gq13_1 Gq9_0 Gq9_1 Gq9_2 Gq9_3 Gq12_0 Gq12_1 Gq12_2 Gq12_3 S_C hcs cq9_1 cq12_1 cq9_2 cq12_2) hZ (hw _ (List.mem_of_getElem? (i := 51) rfl)) (hw _ (List.mem_of_getElem? (i := 5) rfl)) (by decide) (by decide)) q14a q14c (g := (mkF m 185 #[.val (.long p1), .second, .val (.long p2), .second, .val (.int p3), .val (.int p4), .val (.int p5), .val (.long sb), .second, .val (.int la), .val (.int a0_), .val (.int a1_), .val (.int lb), .val (.int e0_), .val (.int e1_), .val (.ref wa1), .val (.ref wb1), .val (.ref b8), .val (.ref b11), .unset, .unset, .unset, .unset] [(.ref b11), (.ref b8)])) rfl (by rw [hml]; rfl) (Steps.refl _) (argsL := [(.ref b11)]) (rest := []) (lenOf pd_16 rfl) rfl (by show 2 * 0 + _ ≤ _; exact Nat.le_of_eq rfl) (hb hby at_185) (fun _ hWm => ⟨rfl, rfl, (by decide : 10 + 0 ≤ _), (by decide : 22 + 0 ≤ _)⟩)
  dsimp only [Pt.U, Pt.locs, Pt.cells, Pt.slots] at X14 l14 y14 z14 st14 hQ14
  subst l14 y14 z14
  obtain ⟨vv14, rfl, Nq14, Kq14, cq14_0, cq14_1⟩ := hQ14
  replace N := Fr.app N Nq14
  refine own_go (B := T14.setTop (mkF m 188 #[.val (.long p1), .second, .val (.long p2), .second, .val (.int p3), .val (.int p4), .val (.int p5), .val (.long sb), .second, .val (.int la), .val (.int a0_), .val (.int a1_), .val (.int lb), .val (.int e0_), .val (.int e1_), .val (.ref wa1), .val (.ref wb1), .val (.ref b8), .val (.ref b11), .unset, .unset, .unset, .unset] [(.int vv14)])) (fun t k => st14.trans k) ?_
  refine own_go (B := T14.setTop (mkF m 194 #[.val (.long p1), .second, .val (.long p2), .second, .val (.int p3), .val (.int p4), .val (.int p5), .val (.long sb), .second, .val (.int la), .val (.int a0_), .val (.int a1_), .val (.int lb), .val (.int e0_), .val (.int e1_), .val (.ref wa1), .val (.ref wb1), .val (.ref b8), .val (.ref b11), .val (.int vv14), .unset, .unset, .unset] [(.ref b8), (.ref b11)])) (fun t k => ?_) ?_
  · show Steps p.tables e below (T14.setTop (mkF m 188 #[.val (.long p1), .second, .val (.long p2), .second, .val (.int p3), .val (.int p4), .val (.int p5), .val (.long sb), .second, .val (.int la), .val (.int a0_), .val (.int a1_), .val (.int lb), .val (.int e0_), .val (.int e1_), .val (.ref wa1), .val (.ref wb1), .val (.ref b8), .val (.ref b11), .unset, .unset, .unset, .unset] [(.int vv14)])) _
    refine XS.istore X14.here hx rfl (hb hby at_188) rfl (l' := #[.val (.long p1), .second, .val (.long p2), .second, .val (.int p3), .val (.int p4), .val (.int p5), .val (.long sb), .second, .val (.int la), .val (.int a0_), .val (.int a1_), .val (.int lb), .val (.int e0_), .val (.int e1_), .val (.ref wa1), .val (.ref wb1), .val (.ref b8), .val (.ref b11), .val (.int vv14), .unset, .unset, .unset]) rfl ?_
    show Steps p.tables e below (T14.setTop (mkF m 190 #[.val (.long p1), .second, .val (.long p2), .second, .val (.int p3), .val (.int p4), .val (.int p5), .val (.long sb), .second, .val (.int la), .val (.int a0_), .val (.int a1_), .val (.int lb), .val (.int e0_), .val (.int e1_), .val (.ref wa1), .val (.ref wb1), .val (.ref b8), .val (.ref b11), .val (.int vv14), .unset, .unset, .unset] [])) _
    refine XS.aload X14.here hx rfl (hb hby at_190) rfl rfl ?_
    show Steps p.tables e below (T14.setTop (mkF m 192 #[.val (.long p1), .second, .val (.long p2), .second, .val (.int p3), .val (.int p4), .val (.int p5), .val (.long sb), .second, .val (.int la), .val (.int a0_), .val (.int a1_), .val (.int lb), .val (.int e0_), .val (.int e1_), .val (.ref wa1), .val (.ref wb1), .val (.ref b8), .val (.ref b11), .val (.int vv14), .unset, .unset, .unset] [(.ref b11)])) _
    refine XS.aload X14.here hx rfl (hb hby at_192) rfl rfl ?_
    show Steps p.tables e below (T14.setTop (mkF m 194 #[.val (.long p1), .second, .val (.long p2), .second, .val (.int p3), .val (.int p4), .val (.int p5), .val (.long sb), .second, .val (.int la), .val (.int a0_), .val (.int a1_), .val (.int lb), .val (.int e0_), .val (.int e1_), .val (.ref wa1), .val (.ref wb1), .val (.ref b8), .val (.ref b11), .val (.int vv14), .unset, .unset, .unset] [(.ref b8), (.ref b11)])) _
    exact k
  -- pc 194: com/example/lockline/lockline/Contender.isAheadOf
  obtain ⟨cq15, kq15, q15a, q15b, q15c⟩ := isOf hZ Kq14 A11
  obtain ⟨_, _, ⟨T15, L15, k15, n15⟩, -, X15, ⟨Lc15, hQ15, l15, y15, z15⟩, st15⟩ := X14.virtualBack hx (y := (⟨"com/example/lockline/lockline/Contender", "isAheadOf", "(Lcom/example/lockline/lockline/Contender;)Z"⟩ : MethodName)) (z := (⟨"com/example/lockline/lockline/Contender", "isAheadOf", "(Lcom/example/lockline/lockline/Contender;)Z"⟩ : MethodName)) hown (mvT hZ (hw _ (List.mem_of_getElem? (i := 47) rfl))) (mvT hZ (hw _ (List.mem_of_getElem? (i := 48) rfl))) (notFace_of_selects (args := #[]) (mvT hZ (hw _ (List.mem_of_getElem? (i := 50) rfl)))) (mvT hZ (hw _ (List.mem_of_getElem? (i := 50) rfl))) (mvT hZ (hw _ (List.mem_of_getElem? (i := 49) rfl))) (by decide) (backOf (W := 0) (rmAhead l Z a0 hw [] b11 b8 sb p1 r12 r9 t12 t9 k12 k9 cs12 cs9 zc T13.heap n0 O Gq13_0 Gq13_1 Gq10_0 Gq10_1 Gq12_0 Gq12_1 Gq12_2 Gq12_3 Gq9_0 Gq9_1 Gq9_2 Gq9_3 S_C hcs cq12_1 cq9_1 cq12_2 cq9_2) hZ (hw _ (List.mem_of_getElem? (i := 51) rfl)) (hw _ (List.mem_of_getElem? (i := 5) rfl)) (by decide) (by decide)) q15a q15c (g := (mkF m 194 #[.val (.long p1), .second, .val (.long p2), .second, .val (.int p3), .val (.int p4), .val (.int p5), .val (.long sb), .second, .val (.int la), .val (.int a0_), .val (.int a1_), .val (.int lb), .val (.int e0_), .val (.int e1_), .val (.ref wa1), .val (.ref wb1), .val (.ref b8), .val (.ref b11), .val (.int vv14), .unset, .unset, .unset] [(.ref b8), (.ref b11)])) rfl (by rw [hml]; rfl) (Steps.refl _) (argsL := [(.ref b8)]) (rest := []) (lenOf pd_16 rfl) rfl (by show 2 * 0 + _ ≤ _; exact Nat.le_of_eq rfl) (hb hby at_194) (fun _ hWm => ⟨rfl, Kq14, (by decide : 10 + 0 ≤ _), (by decide : 22 + 0 ≤ _)⟩)
  dsimp only [Pt.U, Pt.locs, Pt.cells, Pt.slots] at X15 l15 y15 z15 st15 hQ15
  subst l15 y15 z15
  obtain ⟨vv15, rfl, Nq15, Kq15, cq15_0, cq15_1⟩ := hQ15
  replace N := Fr.app N Nq15
  refine own_go (B := T15.setTop (mkF m 197 #[.val (.long p1), .second, .val (.long p2), .second, .val (.int p3), .val (.int p4), .val (.int p5), .val (.long sb), .second, .val (.int la), .val (.int a0_), .val (.int a1_), .val (.int lb), .val (.int e0_), .val (.int e1_), .val (.ref wa1), .val (.ref wb1), .val (.ref b8), .val (.ref b11), .val (.int vv14), .unset, .unset, .unset] [(.int vv15)])) (fun t k => st15.trans k) ?_
  refine own_go (B := T15.setTop (mkF m 199 #[.val (.long p1), .second, .val (.long p2), .second, .val (.int p3), .val (.int p4), .val (.int p5), .val (.long sb), .second, .val (.int la), .val (.int a0_), .val (.int a1_), .val (.int lb), .val (.int e0_), .val (.int e1_), .val (.ref wa1), .val (.ref wb1), .val (.ref b8), .val (.ref b11), .val (.int vv14), .val (.int vv15), .unset, .unset] [])) (fun t k => ?_) ?_
  · show Steps p.tables e below (T15.setTop (mkF m 197 #[.val (.long p1), .second, .val (.long p2), .second, .val (.int p3), .val (.int p4), .val (.int p5), .val (.long sb), .second, .val (.int la), .val (.int a0_), .val (.int a1_), .val (.int lb), .val (.int e0_), .val (.int e1_), .val (.ref wa1), .val (.ref wb1), .val (.ref b8), .val (.ref b11), .val (.int vv14), .unset, .unset, .unset] [(.int vv15)])) _
    refine XS.istore X15.here hx rfl (hb hby at_197) rfl (l' := #[.val (.long p1), .second, .val (.long p2), .second, .val (.int p3), .val (.int p4), .val (.int p5), .val (.long sb), .second, .val (.int la), .val (.int a0_), .val (.int a1_), .val (.int lb), .val (.int e0_), .val (.int e1_), .val (.ref wa1), .val (.ref wb1), .val (.ref b8), .val (.ref b11), .val (.int vv14), .val (.int vv15), .unset, .unset]) rfl ?_
    show Steps p.tables e below (T15.setTop (mkF m 199 #[.val (.long p1), .second, .val (.long p2), .second, .val (.int p3), .val (.int p4), .val (.int p5), .val (.long sb), .second, .val (.int la), .val (.int a0_), .val (.int a1_), .val (.int lb), .val (.int e0_), .val (.int e1_), .val (.ref wa1), .val (.ref wb1), .val (.ref b8), .val (.ref b11), .val (.int vv14), .val (.int vv15), .unset, .unset] [])) _
    exact k
  rw [cq9_0, cq12_0] at cq14_0 cq14_1 cq15_0 cq15_1
  have hA := own_fin3 (l := la) (m := lb) bla blb ba0_ ba1_ be0_ be1_
  have hB := own_fin3 (l := lb) (m := la) blb bla be0_ be1_ ba0_ ba1_
  by_cases se : p1 = sb
  · by_cases f1 : own_less la a0_ a1_ lb e0_ e1_
    · by_cases f2 : own_less lb e0_ e1_ la a0_ a1_
      · refine own_go (B := T15.setTop (mkF m 233 #[.val (.long p1), .second, .val (.long p2), .second, .val (.int p3), .val (.int p4), .val (.int p5), .val (.long sb), .second, .val (.int la), .val (.int a0_), .val (.int a1_), .val (.int lb), .val (.int e0_), .val (.int e1_), .val (.ref wa1), .val (.ref wb1), .val (.ref b8), .val (.ref b11), .val (.int vv14), .val (.int vv15), .unset, .unset] [(.int e1_), (.int e0_), (.int lb), (.int a1_), (.int a0_), (.int la)])) (fun t k => ?_) ?_
        · show Steps p.tables e below (T15.setTop (mkF m 199 #[.val (.long p1), .second, .val (.long p2), .second, .val (.int p3), .val (.int p4), .val (.int p5), .val (.long sb), .second, .val (.int la), .val (.int a0_), .val (.int a1_), .val (.int lb), .val (.int e0_), .val (.int e1_), .val (.ref wa1), .val (.ref wb1), .val (.ref b8), .val (.ref b11), .val (.int vv14), .val (.int vv15), .unset, .unset] [])) _
          refine XS.lloadN X15.here hx rfl (hb hby at_199) rfl ?_
          show Steps p.tables e below (T15.setTop (mkF m 200 #[.val (.long p1), .second, .val (.long p2), .second, .val (.int p3), .val (.int p4), .val (.int p5), .val (.long sb), .second, .val (.int la), .val (.int a0_), .val (.int a1_), .val (.int lb), .val (.int e0_), .val (.int e1_), .val (.ref wa1), .val (.ref wb1), .val (.ref b8), .val (.ref b11), .val (.int vv14), .val (.int vv15), .unset, .unset] [(.long p1)])) _
          refine XS.lload X15.here hx rfl (hb hby at_200) rfl ?_
          show Steps p.tables e below (T15.setTop (mkF m 202 #[.val (.long p1), .second, .val (.long p2), .second, .val (.int p3), .val (.int p4), .val (.int p5), .val (.long sb), .second, .val (.int la), .val (.int a0_), .val (.int a1_), .val (.int lb), .val (.int e0_), .val (.int e1_), .val (.ref wa1), .val (.ref wb1), .val (.ref b8), .val (.ref b11), .val (.int vv14), .val (.int vv15), .unset, .unset] [(.long sb), (.long p1)])) _
          refine XS.lcmp X15.here hx rfl (hb hby at_202) rfl ?_
          show Steps p.tables e below (T15.setTop (mkF m 203 #[.val (.long p1), .second, .val (.long p2), .second, .val (.int p3), .val (.int p4), .val (.int p5), .val (.long sb), .second, .val (.int la), .val (.int a0_), .val (.int a1_), .val (.int lb), .val (.int e0_), .val (.int e1_), .val (.ref wa1), .val (.ref wb1), .val (.ref b8), .val (.ref b11), .val (.int vv14), .val (.int vv15), .unset, .unset] [(.int (lcmpW p1 sb))])) _
          refine XS.ifYes X15.here hx rfl (pc0 := 203) (pc' := 221) rfl (hb hby at_203) rfl (XT.ll_eq_t se) (by decide) (by decide) ?_
          show Steps p.tables e below (T15.setTop (mkF m 221 #[.val (.long p1), .second, .val (.long p2), .second, .val (.int p3), .val (.int p4), .val (.int p5), .val (.long sb), .second, .val (.int la), .val (.int a0_), .val (.int a1_), .val (.int lb), .val (.int e0_), .val (.int e1_), .val (.ref wa1), .val (.ref wb1), .val (.ref b8), .val (.ref b11), .val (.int vv14), .val (.int vv15), .unset, .unset] [])) _
          refine XS.iload X15.here hx rfl (hb hby at_221) rfl ?_
          show Steps p.tables e below (T15.setTop (mkF m 223 #[.val (.long p1), .second, .val (.long p2), .second, .val (.int p3), .val (.int p4), .val (.int p5), .val (.long sb), .second, .val (.int la), .val (.int a0_), .val (.int a1_), .val (.int lb), .val (.int e0_), .val (.int e1_), .val (.ref wa1), .val (.ref wb1), .val (.ref b8), .val (.ref b11), .val (.int vv14), .val (.int vv15), .unset, .unset] [(.int la)])) _
          refine XS.iload X15.here hx rfl (hb hby at_223) rfl ?_
          show Steps p.tables e below (T15.setTop (mkF m 225 #[.val (.long p1), .second, .val (.long p2), .second, .val (.int p3), .val (.int p4), .val (.int p5), .val (.long sb), .second, .val (.int la), .val (.int a0_), .val (.int a1_), .val (.int lb), .val (.int e0_), .val (.int e1_), .val (.ref wa1), .val (.ref wb1), .val (.ref b8), .val (.ref b11), .val (.int vv14), .val (.int vv15), .unset, .unset] [(.int a0_), (.int la)])) _
          refine XS.iload X15.here hx rfl (hb hby at_225) rfl ?_
          show Steps p.tables e below (T15.setTop (mkF m 227 #[.val (.long p1), .second, .val (.long p2), .second, .val (.int p3), .val (.int p4), .val (.int p5), .val (.long sb), .second, .val (.int la), .val (.int a0_), .val (.int a1_), .val (.int lb), .val (.int e0_), .val (.int e1_), .val (.ref wa1), .val (.ref wb1), .val (.ref b8), .val (.ref b11), .val (.int vv14), .val (.int vv15), .unset, .unset] [(.int a1_), (.int a0_), (.int la)])) _
          refine XS.iload X15.here hx rfl (hb hby at_227) rfl ?_
          show Steps p.tables e below (T15.setTop (mkF m 229 #[.val (.long p1), .second, .val (.long p2), .second, .val (.int p3), .val (.int p4), .val (.int p5), .val (.long sb), .second, .val (.int la), .val (.int a0_), .val (.int a1_), .val (.int lb), .val (.int e0_), .val (.int e1_), .val (.ref wa1), .val (.ref wb1), .val (.ref b8), .val (.ref b11), .val (.int vv14), .val (.int vv15), .unset, .unset] [(.int lb), (.int a1_), (.int a0_), (.int la)])) _
          refine XS.iload X15.here hx rfl (hb hby at_229) rfl ?_
          show Steps p.tables e below (T15.setTop (mkF m 231 #[.val (.long p1), .second, .val (.long p2), .second, .val (.int p3), .val (.int p4), .val (.int p5), .val (.long sb), .second, .val (.int la), .val (.int a0_), .val (.int a1_), .val (.int lb), .val (.int e0_), .val (.int e1_), .val (.ref wa1), .val (.ref wb1), .val (.ref b8), .val (.ref b11), .val (.int vv14), .val (.int vv15), .unset, .unset] [(.int e0_), (.int lb), (.int a1_), (.int a0_), (.int la)])) _
          refine XS.iload X15.here hx rfl (hb hby at_231) rfl ?_
          show Steps p.tables e below (T15.setTop (mkF m 233 #[.val (.long p1), .second, .val (.long p2), .second, .val (.int p3), .val (.int p4), .val (.int p5), .val (.long sb), .second, .val (.int la), .val (.int a0_), .val (.int a1_), .val (.int lb), .val (.int e0_), .val (.int e1_), .val (.ref wa1), .val (.ref wb1), .val (.ref b8), .val (.ref b11), .val (.int vv14), .val (.int vv15), .unset, .unset] [(.int e1_), (.int e0_), (.int lb), (.int a1_), (.int a0_), (.int la)])) _
          exact k
        -- pc 233: com/example/lockline/lockline/ContenderIsAheadOfPinLaw.less
        obtain ⟨_, _, ⟨T16, L16, k16, n16⟩, -, X16, ⟨Lc16, hQ16, l16, y16, z16⟩, st16⟩ := Jvm.LawKit.callS X15 hx (y := (⟨"com/example/lockline/lockline/ContenderIsAheadOfPinLaw", "less", "(ICCICC)Z"⟩ : MethodName)) hown (mvT hZ (hw _ (List.mem_of_getElem? (i := 106) rfl))) (mvT hZ (hw _ (List.mem_of_getElem? (i := 107) rfl))) (mvT hZ (hw _ (List.mem_of_getElem? (i := 8) rfl))) (mvT hZ (hw _ (List.mem_of_getElem? (i := 108) rfl))) (by decide) (backOf (W := 0) (rmLess l Z a0 hw [] la a0_ a1_ lb e0_ e1_ T13.heap n0 O ) hZ (hw _ (List.mem_of_getElem? (i := 108) rfl)) (hw _ (List.mem_of_getElem? (i := 8) rfl)) (by decide) (by decide)) (g := (mkF m 233 #[.val (.long p1), .second, .val (.long p2), .second, .val (.int p3), .val (.int p4), .val (.int p5), .val (.long sb), .second, .val (.int la), .val (.int a0_), .val (.int a1_), .val (.int lb), .val (.int e0_), .val (.int e1_), .val (.ref wa1), .val (.ref wb1), .val (.ref b8), .val (.ref b11), .val (.int vv14), .val (.int vv15), .unset, .unset] [(.int e1_), (.int e0_), (.int lb), (.int a1_), (.int a0_), (.int la)])) rfl (by rw [hml]; rfl) (argsL := [(.int la), (.int a0_), (.int a1_), (.int lb), (.int e0_), (.int e1_)]) (rest := []) (lenOf pd_17 rfl) rfl (by show 2 * 0 + _ ≤ _; exact Nat.le_of_eq rfl) (hb hby at_233) (fun _ hWm => ⟨rfl, Kq15, (by decide : 10 + 0 ≤ _), (by decide : 22 + 0 ≤ _)⟩)
        dsimp only [Pt.U, Pt.locs, Pt.cells, Pt.slots] at X16 l16 y16 z16 st16 hQ16
        subst l16 y16 z16
        obtain ⟨vv16, rfl, Nq16, Kq16, cq16_0, cq16_1⟩ := hQ16
        replace N := Fr.app N Nq16
        refine own_go (B := T16.setTop (mkF m 236 #[.val (.long p1), .second, .val (.long p2), .second, .val (.int p3), .val (.int p4), .val (.int p5), .val (.long sb), .second, .val (.int la), .val (.int a0_), .val (.int a1_), .val (.int lb), .val (.int e0_), .val (.int e1_), .val (.ref wa1), .val (.ref wb1), .val (.ref b8), .val (.ref b11), .val (.int vv14), .val (.int vv15), .unset, .unset] [(.int vv16)])) st16 ?_
        refine own_go (B := T16.setTop (mkF m 272 #[.val (.long p1), .second, .val (.long p2), .second, .val (.int p3), .val (.int p4), .val (.int p5), .val (.long sb), .second, .val (.int la), .val (.int a0_), .val (.int a1_), .val (.int lb), .val (.int e0_), .val (.int e1_), .val (.ref wa1), .val (.ref wb1), .val (.ref b8), .val (.ref b11), .val (.int vv14), .val (.int vv15), .val (.int vv16), .unset] [(.int a1_), (.int a0_), (.int la), (.int e1_), (.int e0_), (.int lb)])) (fun t k => ?_) ?_
        · show Steps p.tables e below (T16.setTop (mkF m 236 #[.val (.long p1), .second, .val (.long p2), .second, .val (.int p3), .val (.int p4), .val (.int p5), .val (.long sb), .second, .val (.int la), .val (.int a0_), .val (.int a1_), .val (.int lb), .val (.int e0_), .val (.int e1_), .val (.ref wa1), .val (.ref wb1), .val (.ref b8), .val (.ref b11), .val (.int vv14), .val (.int vv15), .unset, .unset] [(.int vv16)])) _
          refine XS.istore X16.here hx rfl (hb hby at_236) rfl (l' := #[.val (.long p1), .second, .val (.long p2), .second, .val (.int p3), .val (.int p4), .val (.int p5), .val (.long sb), .second, .val (.int la), .val (.int a0_), .val (.int a1_), .val (.int lb), .val (.int e0_), .val (.int e1_), .val (.ref wa1), .val (.ref wb1), .val (.ref b8), .val (.ref b11), .val (.int vv14), .val (.int vv15), .val (.int vv16), .unset]) rfl ?_
          show Steps p.tables e below (T16.setTop (mkF m 238 #[.val (.long p1), .second, .val (.long p2), .second, .val (.int p3), .val (.int p4), .val (.int p5), .val (.long sb), .second, .val (.int la), .val (.int a0_), .val (.int a1_), .val (.int lb), .val (.int e0_), .val (.int e1_), .val (.ref wa1), .val (.ref wb1), .val (.ref b8), .val (.ref b11), .val (.int vv14), .val (.int vv15), .val (.int vv16), .unset] [])) _
          refine XS.lloadN X16.here hx rfl (hb hby at_238) rfl ?_
          show Steps p.tables e below (T16.setTop (mkF m 239 #[.val (.long p1), .second, .val (.long p2), .second, .val (.int p3), .val (.int p4), .val (.int p5), .val (.long sb), .second, .val (.int la), .val (.int a0_), .val (.int a1_), .val (.int lb), .val (.int e0_), .val (.int e1_), .val (.ref wa1), .val (.ref wb1), .val (.ref b8), .val (.ref b11), .val (.int vv14), .val (.int vv15), .val (.int vv16), .unset] [(.long p1)])) _
          refine XS.lload X16.here hx rfl (hb hby at_239) rfl ?_
          show Steps p.tables e below (T16.setTop (mkF m 241 #[.val (.long p1), .second, .val (.long p2), .second, .val (.int p3), .val (.int p4), .val (.int p5), .val (.long sb), .second, .val (.int la), .val (.int a0_), .val (.int a1_), .val (.int lb), .val (.int e0_), .val (.int e1_), .val (.ref wa1), .val (.ref wb1), .val (.ref b8), .val (.ref b11), .val (.int vv14), .val (.int vv15), .val (.int vv16), .unset] [(.long sb), (.long p1)])) _
          refine XS.lcmp X16.here hx rfl (hb hby at_241) rfl ?_
          show Steps p.tables e below (T16.setTop (mkF m 242 #[.val (.long p1), .second, .val (.long p2), .second, .val (.int p3), .val (.int p4), .val (.int p5), .val (.long sb), .second, .val (.int la), .val (.int a0_), .val (.int a1_), .val (.int lb), .val (.int e0_), .val (.int e1_), .val (.ref wa1), .val (.ref wb1), .val (.ref b8), .val (.ref b11), .val (.int vv14), .val (.int vv15), .val (.int vv16), .unset] [(.int (lcmpW p1 sb))])) _
          refine XS.ifYes X16.here hx rfl (pc0 := 242) (pc' := 260) rfl (hb hby at_242) rfl (XT.ll_eq_t se) (by decide) (by decide) ?_
          show Steps p.tables e below (T16.setTop (mkF m 260 #[.val (.long p1), .second, .val (.long p2), .second, .val (.int p3), .val (.int p4), .val (.int p5), .val (.long sb), .second, .val (.int la), .val (.int a0_), .val (.int a1_), .val (.int lb), .val (.int e0_), .val (.int e1_), .val (.ref wa1), .val (.ref wb1), .val (.ref b8), .val (.ref b11), .val (.int vv14), .val (.int vv15), .val (.int vv16), .unset] [])) _
          refine XS.iload X16.here hx rfl (hb hby at_260) rfl ?_
          show Steps p.tables e below (T16.setTop (mkF m 262 #[.val (.long p1), .second, .val (.long p2), .second, .val (.int p3), .val (.int p4), .val (.int p5), .val (.long sb), .second, .val (.int la), .val (.int a0_), .val (.int a1_), .val (.int lb), .val (.int e0_), .val (.int e1_), .val (.ref wa1), .val (.ref wb1), .val (.ref b8), .val (.ref b11), .val (.int vv14), .val (.int vv15), .val (.int vv16), .unset] [(.int lb)])) _
          refine XS.iload X16.here hx rfl (hb hby at_262) rfl ?_
          show Steps p.tables e below (T16.setTop (mkF m 264 #[.val (.long p1), .second, .val (.long p2), .second, .val (.int p3), .val (.int p4), .val (.int p5), .val (.long sb), .second, .val (.int la), .val (.int a0_), .val (.int a1_), .val (.int lb), .val (.int e0_), .val (.int e1_), .val (.ref wa1), .val (.ref wb1), .val (.ref b8), .val (.ref b11), .val (.int vv14), .val (.int vv15), .val (.int vv16), .unset] [(.int e0_), (.int lb)])) _
          refine XS.iload X16.here hx rfl (hb hby at_264) rfl ?_
          show Steps p.tables e below (T16.setTop (mkF m 266 #[.val (.long p1), .second, .val (.long p2), .second, .val (.int p3), .val (.int p4), .val (.int p5), .val (.long sb), .second, .val (.int la), .val (.int a0_), .val (.int a1_), .val (.int lb), .val (.int e0_), .val (.int e1_), .val (.ref wa1), .val (.ref wb1), .val (.ref b8), .val (.ref b11), .val (.int vv14), .val (.int vv15), .val (.int vv16), .unset] [(.int e1_), (.int e0_), (.int lb)])) _
          refine XS.iload X16.here hx rfl (hb hby at_266) rfl ?_
          show Steps p.tables e below (T16.setTop (mkF m 268 #[.val (.long p1), .second, .val (.long p2), .second, .val (.int p3), .val (.int p4), .val (.int p5), .val (.long sb), .second, .val (.int la), .val (.int a0_), .val (.int a1_), .val (.int lb), .val (.int e0_), .val (.int e1_), .val (.ref wa1), .val (.ref wb1), .val (.ref b8), .val (.ref b11), .val (.int vv14), .val (.int vv15), .val (.int vv16), .unset] [(.int la), (.int e1_), (.int e0_), (.int lb)])) _
          refine XS.iload X16.here hx rfl (hb hby at_268) rfl ?_
          show Steps p.tables e below (T16.setTop (mkF m 270 #[.val (.long p1), .second, .val (.long p2), .second, .val (.int p3), .val (.int p4), .val (.int p5), .val (.long sb), .second, .val (.int la), .val (.int a0_), .val (.int a1_), .val (.int lb), .val (.int e0_), .val (.int e1_), .val (.ref wa1), .val (.ref wb1), .val (.ref b8), .val (.ref b11), .val (.int vv14), .val (.int vv15), .val (.int vv16), .unset] [(.int a0_), (.int la), (.int e1_), (.int e0_), (.int lb)])) _
          refine XS.iload X16.here hx rfl (hb hby at_270) rfl ?_
          show Steps p.tables e below (T16.setTop (mkF m 272 #[.val (.long p1), .second, .val (.long p2), .second, .val (.int p3), .val (.int p4), .val (.int p5), .val (.long sb), .second, .val (.int la), .val (.int a0_), .val (.int a1_), .val (.int lb), .val (.int e0_), .val (.int e1_), .val (.ref wa1), .val (.ref wb1), .val (.ref b8), .val (.ref b11), .val (.int vv14), .val (.int vv15), .val (.int vv16), .unset] [(.int a1_), (.int a0_), (.int la), (.int e1_), (.int e0_), (.int lb)])) _
          exact k
        -- pc 272: com/example/lockline/lockline/ContenderIsAheadOfPinLaw.less
        obtain ⟨_, _, ⟨T17, L17, k17, n17⟩, -, X17, ⟨Lc17, hQ17, l17, y17, z17⟩, st17⟩ := Jvm.LawKit.callS X16 hx (y := (⟨"com/example/lockline/lockline/ContenderIsAheadOfPinLaw", "less", "(ICCICC)Z"⟩ : MethodName)) hown (mvT hZ (hw _ (List.mem_of_getElem? (i := 106) rfl))) (mvT hZ (hw _ (List.mem_of_getElem? (i := 107) rfl))) (mvT hZ (hw _ (List.mem_of_getElem? (i := 8) rfl))) (mvT hZ (hw _ (List.mem_of_getElem? (i := 108) rfl))) (by decide) (backOf (W := 0) (rmLess l Z a0 hw [] lb e0_ e1_ la a0_ a1_ T13.heap n0 O ) hZ (hw _ (List.mem_of_getElem? (i := 108) rfl)) (hw _ (List.mem_of_getElem? (i := 8) rfl)) (by decide) (by decide)) (g := (mkF m 272 #[.val (.long p1), .second, .val (.long p2), .second, .val (.int p3), .val (.int p4), .val (.int p5), .val (.long sb), .second, .val (.int la), .val (.int a0_), .val (.int a1_), .val (.int lb), .val (.int e0_), .val (.int e1_), .val (.ref wa1), .val (.ref wb1), .val (.ref b8), .val (.ref b11), .val (.int vv14), .val (.int vv15), .val (.int vv16), .unset] [(.int a1_), (.int a0_), (.int la), (.int e1_), (.int e0_), (.int lb)])) rfl (by rw [hml]; rfl) (argsL := [(.int lb), (.int e0_), (.int e1_), (.int la), (.int a0_), (.int a1_)]) (rest := []) (lenOf pd_17 rfl) rfl (by show 2 * 0 + _ ≤ _; exact Nat.le_of_eq rfl) (hb hby at_272) (fun _ hWm => ⟨rfl, Kq16, (by decide : 10 + 0 ≤ _), (by decide : 22 + 0 ≤ _)⟩)
        dsimp only [Pt.U, Pt.locs, Pt.cells, Pt.slots] at X17 l17 y17 z17 st17 hQ17
        subst l17 y17 z17
        obtain ⟨vv17, rfl, Nq17, Kq17, cq17_0, cq17_1⟩ := hQ17
        replace N := Fr.app N Nq17
        refine own_go (B := T17.setTop (mkF m 275 #[.val (.long p1), .second, .val (.long p2), .second, .val (.int p3), .val (.int p4), .val (.int p5), .val (.long sb), .second, .val (.int la), .val (.int a0_), .val (.int a1_), .val (.int lb), .val (.int e0_), .val (.int e1_), .val (.ref wa1), .val (.ref wb1), .val (.ref b8), .val (.ref b11), .val (.int vv14), .val (.int vv15), .val (.int vv16), .unset] [(.int vv17)])) st17 ?_
        refine own_go (B := T17.setTop (mkF m 296 #[.val (.long p1), .second, .val (.long p2), .second, .val (.int p3), .val (.int p4), .val (.int p5), .val (.long sb), .second, .val (.int la), .val (.int a0_), .val (.int a1_), .val (.int lb), .val (.int e0_), .val (.int e1_), .val (.ref wa1), .val (.ref wb1), .val (.ref b8), .val (.ref b11), .val (.int vv14), .val (.int vv15), .val (.int vv16), .val (.int vv17)] [(.int (1 : Int32))])) (fun t k => ?_) ?_
        · show Steps p.tables e below (T17.setTop (mkF m 275 #[.val (.long p1), .second, .val (.long p2), .second, .val (.int p3), .val (.int p4), .val (.int p5), .val (.long sb), .second, .val (.int la), .val (.int a0_), .val (.int a1_), .val (.int lb), .val (.int e0_), .val (.int e1_), .val (.ref wa1), .val (.ref wb1), .val (.ref b8), .val (.ref b11), .val (.int vv14), .val (.int vv15), .val (.int vv16), .unset] [(.int vv17)])) _
          refine XS.istore X17.here hx rfl (hb hby at_275) rfl (l' := #[.val (.long p1), .second, .val (.long p2), .second, .val (.int p3), .val (.int p4), .val (.int p5), .val (.long sb), .second, .val (.int la), .val (.int a0_), .val (.int a1_), .val (.int lb), .val (.int e0_), .val (.int e1_), .val (.ref wa1), .val (.ref wb1), .val (.ref b8), .val (.ref b11), .val (.int vv14), .val (.int vv15), .val (.int vv16), .val (.int vv17)]) rfl ?_
          show Steps p.tables e below (T17.setTop (mkF m 277 #[.val (.long p1), .second, .val (.long p2), .second, .val (.int p3), .val (.int p4), .val (.int p5), .val (.long sb), .second, .val (.int la), .val (.int a0_), .val (.int a1_), .val (.int lb), .val (.int e0_), .val (.int e1_), .val (.ref wa1), .val (.ref wb1), .val (.ref b8), .val (.ref b11), .val (.int vv14), .val (.int vv15), .val (.int vv16), .val (.int vv17)] [])) _
          refine XS.iload X17.here hx rfl (hb hby at_277) rfl ?_
          show Steps p.tables e below (T17.setTop (mkF m 279 #[.val (.long p1), .second, .val (.long p2), .second, .val (.int p3), .val (.int p4), .val (.int p5), .val (.long sb), .second, .val (.int la), .val (.int a0_), .val (.int a1_), .val (.int lb), .val (.int e0_), .val (.int e1_), .val (.ref wa1), .val (.ref wb1), .val (.ref b8), .val (.ref b11), .val (.int vv14), .val (.int vv15), .val (.int vv16), .val (.int vv17)] [(.int vv14)])) _
          refine XS.iload X17.here hx rfl (hb hby at_279) rfl ?_
          show Steps p.tables e below (T17.setTop (mkF m 281 #[.val (.long p1), .second, .val (.long p2), .second, .val (.int p3), .val (.int p4), .val (.int p5), .val (.long sb), .second, .val (.int la), .val (.int a0_), .val (.int a1_), .val (.int lb), .val (.int e0_), .val (.int e1_), .val (.ref wa1), .val (.ref wb1), .val (.ref b8), .val (.ref b11), .val (.int vv14), .val (.int vv15), .val (.int vv16), .val (.int vv17)] [(.int vv16), (.int vv14)])) _
          refine XS.icmpNo X17.here hx rfl (hb hby at_281) rfl (teq ((cq14_0 (Or.inr ⟨se, hA.mpr f1⟩)).trans (cq16_0 f1).symm)).2 ?_
          show Steps p.tables e below (T17.setTop (mkF m 284 #[.val (.long p1), .second, .val (.long p2), .second, .val (.int p3), .val (.int p4), .val (.int p5), .val (.long sb), .second, .val (.int la), .val (.int a0_), .val (.int a1_), .val (.int lb), .val (.int e0_), .val (.int e1_), .val (.ref wa1), .val (.ref wb1), .val (.ref b8), .val (.ref b11), .val (.int vv14), .val (.int vv15), .val (.int vv16), .val (.int vv17)] [])) _
          refine XS.iload X17.here hx rfl (hb hby at_284) rfl ?_
          show Steps p.tables e below (T17.setTop (mkF m 286 #[.val (.long p1), .second, .val (.long p2), .second, .val (.int p3), .val (.int p4), .val (.int p5), .val (.long sb), .second, .val (.int la), .val (.int a0_), .val (.int a1_), .val (.int lb), .val (.int e0_), .val (.int e1_), .val (.ref wa1), .val (.ref wb1), .val (.ref b8), .val (.ref b11), .val (.int vv14), .val (.int vv15), .val (.int vv16), .val (.int vv17)] [(.int vv15)])) _
          refine XS.iload X17.here hx rfl (hb hby at_286) rfl ?_
          show Steps p.tables e below (T17.setTop (mkF m 288 #[.val (.long p1), .second, .val (.long p2), .second, .val (.int p3), .val (.int p4), .val (.int p5), .val (.long sb), .second, .val (.int la), .val (.int a0_), .val (.int a1_), .val (.int lb), .val (.int e0_), .val (.int e1_), .val (.ref wa1), .val (.ref wb1), .val (.ref b8), .val (.ref b11), .val (.int vv14), .val (.int vv15), .val (.int vv16), .val (.int vv17)] [(.int vv17), (.int vv15)])) _
          refine XS.icmpNo X17.here hx rfl (hb hby at_288) rfl (teq ((cq15_0 (Or.inr ⟨se.symm, hB.mpr f2⟩)).trans (cq17_0 f2).symm)).2 ?_
          show Steps p.tables e below (T17.setTop (mkF m 291 #[.val (.long p1), .second, .val (.long p2), .second, .val (.int p3), .val (.int p4), .val (.int p5), .val (.long sb), .second, .val (.int la), .val (.int a0_), .val (.int a1_), .val (.int lb), .val (.int e0_), .val (.int e1_), .val (.ref wa1), .val (.ref wb1), .val (.ref b8), .val (.ref b11), .val (.int vv14), .val (.int vv15), .val (.int vv16), .val (.int vv17)] [])) _
          refine XS.iconst X17.here hx rfl (hb hby at_291) ?_
          show Steps p.tables e below (T17.setTop (mkF m 292 #[.val (.long p1), .second, .val (.long p2), .second, .val (.int p3), .val (.int p4), .val (.int p5), .val (.long sb), .second, .val (.int la), .val (.int a0_), .val (.int a1_), .val (.int lb), .val (.int e0_), .val (.int e1_), .val (.ref wa1), .val (.ref wb1), .val (.ref b8), .val (.ref b11), .val (.int vv14), .val (.int vv15), .val (.int vv16), .val (.int vv17)] [(.int (1 : Int32))])) _
          refine XS.goto X17.here hx rfl (pc0 := 292) (pc' := 296) rfl (hb hby at_292) (by decide) (by decide) ?_
          show Steps p.tables e below (T17.setTop (mkF m 296 #[.val (.long p1), .second, .val (.long p2), .second, .val (.int p3), .val (.int p4), .val (.int p5), .val (.long sb), .second, .val (.int la), .val (.int a0_), .val (.int a1_), .val (.int lb), .val (.int e0_), .val (.int e1_), .val (.ref wa1), .val (.ref wb1), .val (.ref b8), .val (.ref b11), .val (.int vv14), .val (.int vv15), .val (.int vv16), .val (.int vv17)] [(.int (1 : Int32))])) _
          exact k
        obtain ⟨fs, hr, hrun, hended, hEnd⟩ := X17.leaveW hS (by rw [Kq17]; exact hk) (v := some (.int (1 : Int32))) (fun h => by rw [Bd.returns] at h; cases h)
        refine ⟨_, _, retN X17 hx (t := .boolean) Bd.returns (by simp) (hb hby at_296) hr, hfin _ _ ⟨hrun, hended, _, _, rfl, ?_, hEnd.1, hEnd.2.1, hEnd.2.2.1, hEnd.2.2.2.mono (by decide) (by decide)⟩⟩
        show Q0 Z p1 p2 p3 p4 p5 wR wW zc h0 n0 _ T17.heap _
        rw [Kq17]
        exact ⟨rfl, N⟩
      · refine own_go (B := T15.setTop (mkF m 233 #[.val (.long p1), .second, .val (.long p2), .second, .val (.int p3), .val (.int p4), .val (.int p5), .val (.long sb), .second, .val (.int la), .val (.int a0_), .val (.int a1_), .val (.int lb), .val (.int e0_), .val (.int e1_), .val (.ref wa1), .val (.ref wb1), .val (.ref b8), .val (.ref b11), .val (.int vv14), .val (.int vv15), .unset, .unset] [(.int e1_), (.int e0_), (.int lb), (.int a1_), (.int a0_), (.int la)])) (fun t k => ?_) ?_
        · show Steps p.tables e below (T15.setTop (mkF m 199 #[.val (.long p1), .second, .val (.long p2), .second, .val (.int p3), .val (.int p4), .val (.int p5), .val (.long sb), .second, .val (.int la), .val (.int a0_), .val (.int a1_), .val (.int lb), .val (.int e0_), .val (.int e1_), .val (.ref wa1), .val (.ref wb1), .val (.ref b8), .val (.ref b11), .val (.int vv14), .val (.int vv15), .unset, .unset] [])) _
          refine XS.lloadN X15.here hx rfl (hb hby at_199) rfl ?_
          show Steps p.tables e below (T15.setTop (mkF m 200 #[.val (.long p1), .second, .val (.long p2), .second, .val (.int p3), .val (.int p4), .val (.int p5), .val (.long sb), .second, .val (.int la), .val (.int a0_), .val (.int a1_), .val (.int lb), .val (.int e0_), .val (.int e1_), .val (.ref wa1), .val (.ref wb1), .val (.ref b8), .val (.ref b11), .val (.int vv14), .val (.int vv15), .unset, .unset] [(.long p1)])) _
          refine XS.lload X15.here hx rfl (hb hby at_200) rfl ?_
          show Steps p.tables e below (T15.setTop (mkF m 202 #[.val (.long p1), .second, .val (.long p2), .second, .val (.int p3), .val (.int p4), .val (.int p5), .val (.long sb), .second, .val (.int la), .val (.int a0_), .val (.int a1_), .val (.int lb), .val (.int e0_), .val (.int e1_), .val (.ref wa1), .val (.ref wb1), .val (.ref b8), .val (.ref b11), .val (.int vv14), .val (.int vv15), .unset, .unset] [(.long sb), (.long p1)])) _
          refine XS.lcmp X15.here hx rfl (hb hby at_202) rfl ?_
          show Steps p.tables e below (T15.setTop (mkF m 203 #[.val (.long p1), .second, .val (.long p2), .second, .val (.int p3), .val (.int p4), .val (.int p5), .val (.long sb), .second, .val (.int la), .val (.int a0_), .val (.int a1_), .val (.int lb), .val (.int e0_), .val (.int e1_), .val (.ref wa1), .val (.ref wb1), .val (.ref b8), .val (.ref b11), .val (.int vv14), .val (.int vv15), .unset, .unset] [(.int (lcmpW p1 sb))])) _
          refine XS.ifYes X15.here hx rfl (pc0 := 203) (pc' := 221) rfl (hb hby at_203) rfl (XT.ll_eq_t se) (by decide) (by decide) ?_
          show Steps p.tables e below (T15.setTop (mkF m 221 #[.val (.long p1), .second, .val (.long p2), .second, .val (.int p3), .val (.int p4), .val (.int p5), .val (.long sb), .second, .val (.int la), .val (.int a0_), .val (.int a1_), .val (.int lb), .val (.int e0_), .val (.int e1_), .val (.ref wa1), .val (.ref wb1), .val (.ref b8), .val (.ref b11), .val (.int vv14), .val (.int vv15), .unset, .unset] [])) _
          refine XS.iload X15.here hx rfl (hb hby at_221) rfl ?_
          show Steps p.tables e below (T15.setTop (mkF m 223 #[.val (.long p1), .second, .val (.long p2), .second, .val (.int p3), .val (.int p4), .val (.int p5), .val (.long sb), .second, .val (.int la), .val (.int a0_), .val (.int a1_), .val (.int lb), .val (.int e0_), .val (.int e1_), .val (.ref wa1), .val (.ref wb1), .val (.ref b8), .val (.ref b11), .val (.int vv14), .val (.int vv15), .unset, .unset] [(.int la)])) _
          refine XS.iload X15.here hx rfl (hb hby at_223) rfl ?_
          show Steps p.tables e below (T15.setTop (mkF m 225 #[.val (.long p1), .second, .val (.long p2), .second, .val (.int p3), .val (.int p4), .val (.int p5), .val (.long sb), .second, .val (.int la), .val (.int a0_), .val (.int a1_), .val (.int lb), .val (.int e0_), .val (.int e1_), .val (.ref wa1), .val (.ref wb1), .val (.ref b8), .val (.ref b11), .val (.int vv14), .val (.int vv15), .unset, .unset] [(.int a0_), (.int la)])) _
          refine XS.iload X15.here hx rfl (hb hby at_225) rfl ?_
          show Steps p.tables e below (T15.setTop (mkF m 227 #[.val (.long p1), .second, .val (.long p2), .second, .val (.int p3), .val (.int p4), .val (.int p5), .val (.long sb), .second, .val (.int la), .val (.int a0_), .val (.int a1_), .val (.int lb), .val (.int e0_), .val (.int e1_), .val (.ref wa1), .val (.ref wb1), .val (.ref b8), .val (.ref b11), .val (.int vv14), .val (.int vv15), .unset, .unset] [(.int a1_), (.int a0_), (.int la)])) _
          refine XS.iload X15.here hx rfl (hb hby at_227) rfl ?_
          show Steps p.tables e below (T15.setTop (mkF m 229 #[.val (.long p1), .second, .val (.long p2), .second, .val (.int p3), .val (.int p4), .val (.int p5), .val (.long sb), .second, .val (.int la), .val (.int a0_), .val (.int a1_), .val (.int lb), .val (.int e0_), .val (.int e1_), .val (.ref wa1), .val (.ref wb1), .val (.ref b8), .val (.ref b11), .val (.int vv14), .val (.int vv15), .unset, .unset] [(.int lb), (.int a1_), (.int a0_), (.int la)])) _
          refine XS.iload X15.here hx rfl (hb hby at_229) rfl ?_
          show Steps p.tables e below (T15.setTop (mkF m 231 #[.val (.long p1), .second, .val (.long p2), .second, .val (.int p3), .val (.int p4), .val (.int p5), .val (.long sb), .second, .val (.int la), .val (.int a0_), .val (.int a1_), .val (.int lb), .val (.int e0_), .val (.int e1_), .val (.ref wa1), .val (.ref wb1), .val (.ref b8), .val (.ref b11), .val (.int vv14), .val (.int vv15), .unset, .unset] [(.int e0_), (.int lb), (.int a1_), (.int a0_), (.int la)])) _
          refine XS.iload X15.here hx rfl (hb hby at_231) rfl ?_
          show Steps p.tables e below (T15.setTop (mkF m 233 #[.val (.long p1), .second, .val (.long p2), .second, .val (.int p3), .val (.int p4), .val (.int p5), .val (.long sb), .second, .val (.int la), .val (.int a0_), .val (.int a1_), .val (.int lb), .val (.int e0_), .val (.int e1_), .val (.ref wa1), .val (.ref wb1), .val (.ref b8), .val (.ref b11), .val (.int vv14), .val (.int vv15), .unset, .unset] [(.int e1_), (.int e0_), (.int lb), (.int a1_), (.int a0_), (.int la)])) _
          exact k
        -- pc 233: com/example/lockline/lockline/ContenderIsAheadOfPinLaw.less
        obtain ⟨_, _, ⟨T19, L19, k19, n19⟩, -, X19, ⟨Lc19, hQ19, l19, y19, z19⟩, st19⟩ := Jvm.LawKit.callS X15 hx (y := (⟨"com/example/lockline/lockline/ContenderIsAheadOfPinLaw", "less", "(ICCICC)Z"⟩ : MethodName)) hown (mvT hZ (hw _ (List.mem_of_getElem? (i := 106) rfl))) (mvT hZ (hw _ (List.mem_of_getElem? (i := 107) rfl))) (mvT hZ (hw _ (List.mem_of_getElem? (i := 8) rfl))) (mvT hZ (hw _ (List.mem_of_getElem? (i := 108) rfl))) (by decide) (backOf (W := 0) (rmLess l Z a0 hw [] la a0_ a1_ lb e0_ e1_ T13.heap n0 O ) hZ (hw _ (List.mem_of_getElem? (i := 108) rfl)) (hw _ (List.mem_of_getElem? (i := 8) rfl)) (by decide) (by decide)) (g := (mkF m 233 #[.val (.long p1), .second, .val (.long p2), .second, .val (.int p3), .val (.int p4), .val (.int p5), .val (.long sb), .second, .val (.int la), .val (.int a0_), .val (.int a1_), .val (.int lb), .val (.int e0_), .val (.int e1_), .val (.ref wa1), .val (.ref wb1), .val (.ref b8), .val (.ref b11), .val (.int vv14), .val (.int vv15), .unset, .unset] [(.int e1_), (.int e0_), (.int lb), (.int a1_), (.int a0_), (.int la)])) rfl (by rw [hml]; rfl) (argsL := [(.int la), (.int a0_), (.int a1_), (.int lb), (.int e0_), (.int e1_)]) (rest := []) (lenOf pd_17 rfl) rfl (by show 2 * 0 + _ ≤ _; exact Nat.le_of_eq rfl) (hb hby at_233) (fun _ hWm => ⟨rfl, Kq15, (by decide : 10 + 0 ≤ _), (by decide : 22 + 0 ≤ _)⟩)
        dsimp only [Pt.U, Pt.locs, Pt.cells, Pt.slots] at X19 l19 y19 z19 st19 hQ19
        subst l19 y19 z19
        obtain ⟨vv19, rfl, Nq19, Kq19, cq19_0, cq19_1⟩ := hQ19
        replace N := Fr.app N Nq19
        refine own_go (B := T19.setTop (mkF m 236 #[.val (.long p1), .second, .val (.long p2), .second, .val (.int p3), .val (.int p4), .val (.int p5), .val (.long sb), .second, .val (.int la), .val (.int a0_), .val (.int a1_), .val (.int lb), .val (.int e0_), .val (.int e1_), .val (.ref wa1), .val (.ref wb1), .val (.ref b8), .val (.ref b11), .val (.int vv14), .val (.int vv15), .unset, .unset] [(.int vv19)])) st19 ?_
        refine own_go (B := T19.setTop (mkF m 272 #[.val (.long p1), .second, .val (.long p2), .second, .val (.int p3), .val (.int p4), .val (.int p5), .val (.long sb), .second, .val (.int la), .val (.int a0_), .val (.int a1_), .val (.int lb), .val (.int e0_), .val (.int e1_), .val (.ref wa1), .val (.ref wb1), .val (.ref b8), .val (.ref b11), .val (.int vv14), .val (.int vv15), .val (.int vv19), .unset] [(.int a1_), (.int a0_), (.int la), (.int e1_), (.int e0_), (.int lb)])) (fun t k => ?_) ?_
        · show Steps p.tables e below (T19.setTop (mkF m 236 #[.val (.long p1), .second, .val (.long p2), .second, .val (.int p3), .val (.int p4), .val (.int p5), .val (.long sb), .second, .val (.int la), .val (.int a0_), .val (.int a1_), .val (.int lb), .val (.int e0_), .val (.int e1_), .val (.ref wa1), .val (.ref wb1), .val (.ref b8), .val (.ref b11), .val (.int vv14), .val (.int vv15), .unset, .unset] [(.int vv19)])) _
          refine XS.istore X19.here hx rfl (hb hby at_236) rfl (l' := #[.val (.long p1), .second, .val (.long p2), .second, .val (.int p3), .val (.int p4), .val (.int p5), .val (.long sb), .second, .val (.int la), .val (.int a0_), .val (.int a1_), .val (.int lb), .val (.int e0_), .val (.int e1_), .val (.ref wa1), .val (.ref wb1), .val (.ref b8), .val (.ref b11), .val (.int vv14), .val (.int vv15), .val (.int vv19), .unset]) rfl ?_
          show Steps p.tables e below (T19.setTop (mkF m 238 #[.val (.long p1), .second, .val (.long p2), .second, .val (.int p3), .val (.int p4), .val (.int p5), .val (.long sb), .second, .val (.int la), .val (.int a0_), .val (.int a1_), .val (.int lb), .val (.int e0_), .val (.int e1_), .val (.ref wa1), .val (.ref wb1), .val (.ref b8), .val (.ref b11), .val (.int vv14), .val (.int vv15), .val (.int vv19), .unset] [])) _
          refine XS.lloadN X19.here hx rfl (hb hby at_238) rfl ?_
          show Steps p.tables e below (T19.setTop (mkF m 239 #[.val (.long p1), .second, .val (.long p2), .second, .val (.int p3), .val (.int p4), .val (.int p5), .val (.long sb), .second, .val (.int la), .val (.int a0_), .val (.int a1_), .val (.int lb), .val (.int e0_), .val (.int e1_), .val (.ref wa1), .val (.ref wb1), .val (.ref b8), .val (.ref b11), .val (.int vv14), .val (.int vv15), .val (.int vv19), .unset] [(.long p1)])) _
          refine XS.lload X19.here hx rfl (hb hby at_239) rfl ?_
          show Steps p.tables e below (T19.setTop (mkF m 241 #[.val (.long p1), .second, .val (.long p2), .second, .val (.int p3), .val (.int p4), .val (.int p5), .val (.long sb), .second, .val (.int la), .val (.int a0_), .val (.int a1_), .val (.int lb), .val (.int e0_), .val (.int e1_), .val (.ref wa1), .val (.ref wb1), .val (.ref b8), .val (.ref b11), .val (.int vv14), .val (.int vv15), .val (.int vv19), .unset] [(.long sb), (.long p1)])) _
          refine XS.lcmp X19.here hx rfl (hb hby at_241) rfl ?_
          show Steps p.tables e below (T19.setTop (mkF m 242 #[.val (.long p1), .second, .val (.long p2), .second, .val (.int p3), .val (.int p4), .val (.int p5), .val (.long sb), .second, .val (.int la), .val (.int a0_), .val (.int a1_), .val (.int lb), .val (.int e0_), .val (.int e1_), .val (.ref wa1), .val (.ref wb1), .val (.ref b8), .val (.ref b11), .val (.int vv14), .val (.int vv15), .val (.int vv19), .unset] [(.int (lcmpW p1 sb))])) _
          refine XS.ifYes X19.here hx rfl (pc0 := 242) (pc' := 260) rfl (hb hby at_242) rfl (XT.ll_eq_t se) (by decide) (by decide) ?_
          show Steps p.tables e below (T19.setTop (mkF m 260 #[.val (.long p1), .second, .val (.long p2), .second, .val (.int p3), .val (.int p4), .val (.int p5), .val (.long sb), .second, .val (.int la), .val (.int a0_), .val (.int a1_), .val (.int lb), .val (.int e0_), .val (.int e1_), .val (.ref wa1), .val (.ref wb1), .val (.ref b8), .val (.ref b11), .val (.int vv14), .val (.int vv15), .val (.int vv19), .unset] [])) _
          refine XS.iload X19.here hx rfl (hb hby at_260) rfl ?_
          show Steps p.tables e below (T19.setTop (mkF m 262 #[.val (.long p1), .second, .val (.long p2), .second, .val (.int p3), .val (.int p4), .val (.int p5), .val (.long sb), .second, .val (.int la), .val (.int a0_), .val (.int a1_), .val (.int lb), .val (.int e0_), .val (.int e1_), .val (.ref wa1), .val (.ref wb1), .val (.ref b8), .val (.ref b11), .val (.int vv14), .val (.int vv15), .val (.int vv19), .unset] [(.int lb)])) _
          refine XS.iload X19.here hx rfl (hb hby at_262) rfl ?_
          show Steps p.tables e below (T19.setTop (mkF m 264 #[.val (.long p1), .second, .val (.long p2), .second, .val (.int p3), .val (.int p4), .val (.int p5), .val (.long sb), .second, .val (.int la), .val (.int a0_), .val (.int a1_), .val (.int lb), .val (.int e0_), .val (.int e1_), .val (.ref wa1), .val (.ref wb1), .val (.ref b8), .val (.ref b11), .val (.int vv14), .val (.int vv15), .val (.int vv19), .unset] [(.int e0_), (.int lb)])) _
          refine XS.iload X19.here hx rfl (hb hby at_264) rfl ?_
          show Steps p.tables e below (T19.setTop (mkF m 266 #[.val (.long p1), .second, .val (.long p2), .second, .val (.int p3), .val (.int p4), .val (.int p5), .val (.long sb), .second, .val (.int la), .val (.int a0_), .val (.int a1_), .val (.int lb), .val (.int e0_), .val (.int e1_), .val (.ref wa1), .val (.ref wb1), .val (.ref b8), .val (.ref b11), .val (.int vv14), .val (.int vv15), .val (.int vv19), .unset] [(.int e1_), (.int e0_), (.int lb)])) _
          refine XS.iload X19.here hx rfl (hb hby at_266) rfl ?_
          show Steps p.tables e below (T19.setTop (mkF m 268 #[.val (.long p1), .second, .val (.long p2), .second, .val (.int p3), .val (.int p4), .val (.int p5), .val (.long sb), .second, .val (.int la), .val (.int a0_), .val (.int a1_), .val (.int lb), .val (.int e0_), .val (.int e1_), .val (.ref wa1), .val (.ref wb1), .val (.ref b8), .val (.ref b11), .val (.int vv14), .val (.int vv15), .val (.int vv19), .unset] [(.int la), (.int e1_), (.int e0_), (.int lb)])) _
          refine XS.iload X19.here hx rfl (hb hby at_268) rfl ?_
          show Steps p.tables e below (T19.setTop (mkF m 270 #[.val (.long p1), .second, .val (.long p2), .second, .val (.int p3), .val (.int p4), .val (.int p5), .val (.long sb), .second, .val (.int la), .val (.int a0_), .val (.int a1_), .val (.int lb), .val (.int e0_), .val (.int e1_), .val (.ref wa1), .val (.ref wb1), .val (.ref b8), .val (.ref b11), .val (.int vv14), .val (.int vv15), .val (.int vv19), .unset] [(.int a0_), (.int la), (.int e1_), (.int e0_), (.int lb)])) _
          refine XS.iload X19.here hx rfl (hb hby at_270) rfl ?_
          show Steps p.tables e below (T19.setTop (mkF m 272 #[.val (.long p1), .second, .val (.long p2), .second, .val (.int p3), .val (.int p4), .val (.int p5), .val (.long sb), .second, .val (.int la), .val (.int a0_), .val (.int a1_), .val (.int lb), .val (.int e0_), .val (.int e1_), .val (.ref wa1), .val (.ref wb1), .val (.ref b8), .val (.ref b11), .val (.int vv14), .val (.int vv15), .val (.int vv19), .unset] [(.int a1_), (.int a0_), (.int la), (.int e1_), (.int e0_), (.int lb)])) _
          exact k
        -- pc 272: com/example/lockline/lockline/ContenderIsAheadOfPinLaw.less
        obtain ⟨_, _, ⟨T20, L20, k20, n20⟩, -, X20, ⟨Lc20, hQ20, l20, y20, z20⟩, st20⟩ := Jvm.LawKit.callS X19 hx (y := (⟨"com/example/lockline/lockline/ContenderIsAheadOfPinLaw", "less", "(ICCICC)Z"⟩ : MethodName)) hown (mvT hZ (hw _ (List.mem_of_getElem? (i := 106) rfl))) (mvT hZ (hw _ (List.mem_of_getElem? (i := 107) rfl))) (mvT hZ (hw _ (List.mem_of_getElem? (i := 8) rfl))) (mvT hZ (hw _ (List.mem_of_getElem? (i := 108) rfl))) (by decide) (backOf (W := 0) (rmLess l Z a0 hw [] lb e0_ e1_ la a0_ a1_ T13.heap n0 O ) hZ (hw _ (List.mem_of_getElem? (i := 108) rfl)) (hw _ (List.mem_of_getElem? (i := 8) rfl)) (by decide) (by decide)) (g := (mkF m 272 #[.val (.long p1), .second, .val (.long p2), .second, .val (.int p3), .val (.int p4), .val (.int p5), .val (.long sb), .second, .val (.int la), .val (.int a0_), .val (.int a1_), .val (.int lb), .val (.int e0_), .val (.int e1_), .val (.ref wa1), .val (.ref wb1), .val (.ref b8), .val (.ref b11), .val (.int vv14), .val (.int vv15), .val (.int vv19), .unset] [(.int a1_), (.int a0_), (.int la), (.int e1_), (.int e0_), (.int lb)])) rfl (by rw [hml]; rfl) (argsL := [(.int lb), (.int e0_), (.int e1_), (.int la), (.int a0_), (.int a1_)]) (rest := []) (lenOf pd_17 rfl) rfl (by show 2 * 0 + _ ≤ _; exact Nat.le_of_eq rfl) (hb hby at_272) (fun _ hWm => ⟨rfl, Kq19, (by decide : 10 + 0 ≤ _), (by decide : 22 + 0 ≤ _)⟩)
        dsimp only [Pt.U, Pt.locs, Pt.cells, Pt.slots] at X20 l20 y20 z20 st20 hQ20
        subst l20 y20 z20
        obtain ⟨vv20, rfl, Nq20, Kq20, cq20_0, cq20_1⟩ := hQ20
        replace N := Fr.app N Nq20
        refine own_go (B := T20.setTop (mkF m 275 #[.val (.long p1), .second, .val (.long p2), .second, .val (.int p3), .val (.int p4), .val (.int p5), .val (.long sb), .second, .val (.int la), .val (.int a0_), .val (.int a1_), .val (.int lb), .val (.int e0_), .val (.int e1_), .val (.ref wa1), .val (.ref wb1), .val (.ref b8), .val (.ref b11), .val (.int vv14), .val (.int vv15), .val (.int vv19), .unset] [(.int vv20)])) st20 ?_
        refine own_go (B := T20.setTop (mkF m 296 #[.val (.long p1), .second, .val (.long p2), .second, .val (.int p3), .val (.int p4), .val (.int p5), .val (.long sb), .second, .val (.int la), .val (.int a0_), .val (.int a1_), .val (.int lb), .val (.int e0_), .val (.int e1_), .val (.ref wa1), .val (.ref wb1), .val (.ref b8), .val (.ref b11), .val (.int vv14), .val (.int vv15), .val (.int vv19), .val (.int vv20)] [(.int (1 : Int32))])) (fun t k => ?_) ?_
        · show Steps p.tables e below (T20.setTop (mkF m 275 #[.val (.long p1), .second, .val (.long p2), .second, .val (.int p3), .val (.int p4), .val (.int p5), .val (.long sb), .second, .val (.int la), .val (.int a0_), .val (.int a1_), .val (.int lb), .val (.int e0_), .val (.int e1_), .val (.ref wa1), .val (.ref wb1), .val (.ref b8), .val (.ref b11), .val (.int vv14), .val (.int vv15), .val (.int vv19), .unset] [(.int vv20)])) _
          refine XS.istore X20.here hx rfl (hb hby at_275) rfl (l' := #[.val (.long p1), .second, .val (.long p2), .second, .val (.int p3), .val (.int p4), .val (.int p5), .val (.long sb), .second, .val (.int la), .val (.int a0_), .val (.int a1_), .val (.int lb), .val (.int e0_), .val (.int e1_), .val (.ref wa1), .val (.ref wb1), .val (.ref b8), .val (.ref b11), .val (.int vv14), .val (.int vv15), .val (.int vv19), .val (.int vv20)]) rfl ?_
          show Steps p.tables e below (T20.setTop (mkF m 277 #[.val (.long p1), .second, .val (.long p2), .second, .val (.int p3), .val (.int p4), .val (.int p5), .val (.long sb), .second, .val (.int la), .val (.int a0_), .val (.int a1_), .val (.int lb), .val (.int e0_), .val (.int e1_), .val (.ref wa1), .val (.ref wb1), .val (.ref b8), .val (.ref b11), .val (.int vv14), .val (.int vv15), .val (.int vv19), .val (.int vv20)] [])) _
          refine XS.iload X20.here hx rfl (hb hby at_277) rfl ?_
          show Steps p.tables e below (T20.setTop (mkF m 279 #[.val (.long p1), .second, .val (.long p2), .second, .val (.int p3), .val (.int p4), .val (.int p5), .val (.long sb), .second, .val (.int la), .val (.int a0_), .val (.int a1_), .val (.int lb), .val (.int e0_), .val (.int e1_), .val (.ref wa1), .val (.ref wb1), .val (.ref b8), .val (.ref b11), .val (.int vv14), .val (.int vv15), .val (.int vv19), .val (.int vv20)] [(.int vv14)])) _
          refine XS.iload X20.here hx rfl (hb hby at_279) rfl ?_
          show Steps p.tables e below (T20.setTop (mkF m 281 #[.val (.long p1), .second, .val (.long p2), .second, .val (.int p3), .val (.int p4), .val (.int p5), .val (.long sb), .second, .val (.int la), .val (.int a0_), .val (.int a1_), .val (.int lb), .val (.int e0_), .val (.int e1_), .val (.ref wa1), .val (.ref wb1), .val (.ref b8), .val (.ref b11), .val (.int vv14), .val (.int vv15), .val (.int vv19), .val (.int vv20)] [(.int vv19), (.int vv14)])) _
          refine XS.icmpNo X20.here hx rfl (hb hby at_281) rfl (teq ((cq14_0 (Or.inr ⟨se, hA.mpr f1⟩)).trans (cq19_0 f1).symm)).2 ?_
          show Steps p.tables e below (T20.setTop (mkF m 284 #[.val (.long p1), .second, .val (.long p2), .second, .val (.int p3), .val (.int p4), .val (.int p5), .val (.long sb), .second, .val (.int la), .val (.int a0_), .val (.int a1_), .val (.int lb), .val (.int e0_), .val (.int e1_), .val (.ref wa1), .val (.ref wb1), .val (.ref b8), .val (.ref b11), .val (.int vv14), .val (.int vv15), .val (.int vv19), .val (.int vv20)] [])) _
          refine XS.iload X20.here hx rfl (hb hby at_284) rfl ?_
          show Steps p.tables e below (T20.setTop (mkF m 286 #[.val (.long p1), .second, .val (.long p2), .second, .val (.int p3), .val (.int p4), .val (.int p5), .val (.long sb), .second, .val (.int la), .val (.int a0_), .val (.int a1_), .val (.int lb), .val (.int e0_), .val (.int e1_), .val (.ref wa1), .val (.ref wb1), .val (.ref b8), .val (.ref b11), .val (.int vv14), .val (.int vv15), .val (.int vv19), .val (.int vv20)] [(.int vv15)])) _
          refine XS.iload X20.here hx rfl (hb hby at_286) rfl ?_
          show Steps p.tables e below (T20.setTop (mkF m 288 #[.val (.long p1), .second, .val (.long p2), .second, .val (.int p3), .val (.int p4), .val (.int p5), .val (.long sb), .second, .val (.int la), .val (.int a0_), .val (.int a1_), .val (.int lb), .val (.int e0_), .val (.int e1_), .val (.ref wa1), .val (.ref wb1), .val (.ref b8), .val (.ref b11), .val (.int vv14), .val (.int vv15), .val (.int vv19), .val (.int vv20)] [(.int vv20), (.int vv15)])) _
          refine XS.icmpNo X20.here hx rfl (hb hby at_288) rfl (teq ((cq15_1 (fun z => z.elim (fun z => z.1 se.symm) (fun z => f2 (hB.mp z.2)))).trans (cq20_1 f2).symm)).2 ?_
          show Steps p.tables e below (T20.setTop (mkF m 291 #[.val (.long p1), .second, .val (.long p2), .second, .val (.int p3), .val (.int p4), .val (.int p5), .val (.long sb), .second, .val (.int la), .val (.int a0_), .val (.int a1_), .val (.int lb), .val (.int e0_), .val (.int e1_), .val (.ref wa1), .val (.ref wb1), .val (.ref b8), .val (.ref b11), .val (.int vv14), .val (.int vv15), .val (.int vv19), .val (.int vv20)] [])) _
          refine XS.iconst X20.here hx rfl (hb hby at_291) ?_
          show Steps p.tables e below (T20.setTop (mkF m 292 #[.val (.long p1), .second, .val (.long p2), .second, .val (.int p3), .val (.int p4), .val (.int p5), .val (.long sb), .second, .val (.int la), .val (.int a0_), .val (.int a1_), .val (.int lb), .val (.int e0_), .val (.int e1_), .val (.ref wa1), .val (.ref wb1), .val (.ref b8), .val (.ref b11), .val (.int vv14), .val (.int vv15), .val (.int vv19), .val (.int vv20)] [(.int (1 : Int32))])) _
          refine XS.goto X20.here hx rfl (pc0 := 292) (pc' := 296) rfl (hb hby at_292) (by decide) (by decide) ?_
          show Steps p.tables e below (T20.setTop (mkF m 296 #[.val (.long p1), .second, .val (.long p2), .second, .val (.int p3), .val (.int p4), .val (.int p5), .val (.long sb), .second, .val (.int la), .val (.int a0_), .val (.int a1_), .val (.int lb), .val (.int e0_), .val (.int e1_), .val (.ref wa1), .val (.ref wb1), .val (.ref b8), .val (.ref b11), .val (.int vv14), .val (.int vv15), .val (.int vv19), .val (.int vv20)] [(.int (1 : Int32))])) _
          exact k
        obtain ⟨fs, hr, hrun, hended, hEnd⟩ := X20.leaveW hS (by rw [Kq20]; exact hk) (v := some (.int (1 : Int32))) (fun h => by rw [Bd.returns] at h; cases h)
        refine ⟨_, _, retN X20 hx (t := .boolean) Bd.returns (by simp) (hb hby at_296) hr, hfin _ _ ⟨hrun, hended, _, _, rfl, ?_, hEnd.1, hEnd.2.1, hEnd.2.2.1, hEnd.2.2.2.mono (by decide) (by decide)⟩⟩
        show Q0 Z p1 p2 p3 p4 p5 wR wW zc h0 n0 _ T20.heap _
        rw [Kq20]
        exact ⟨rfl, N⟩
    · by_cases f2 : own_less lb e0_ e1_ la a0_ a1_
      · refine own_go (B := T15.setTop (mkF m 233 #[.val (.long p1), .second, .val (.long p2), .second, .val (.int p3), .val (.int p4), .val (.int p5), .val (.long sb), .second, .val (.int la), .val (.int a0_), .val (.int a1_), .val (.int lb), .val (.int e0_), .val (.int e1_), .val (.ref wa1), .val (.ref wb1), .val (.ref b8), .val (.ref b11), .val (.int vv14), .val (.int vv15), .unset, .unset] [(.int e1_), (.int e0_), (.int lb), (.int a1_), (.int a0_), (.int la)])) (fun t k => ?_) ?_
        · show Steps p.tables e below (T15.setTop (mkF m 199 #[.val (.long p1), .second, .val (.long p2), .second, .val (.int p3), .val (.int p4), .val (.int p5), .val (.long sb), .second, .val (.int la), .val (.int a0_), .val (.int a1_), .val (.int lb), .val (.int e0_), .val (.int e1_), .val (.ref wa1), .val (.ref wb1), .val (.ref b8), .val (.ref b11), .val (.int vv14), .val (.int vv15), .unset, .unset] [])) _
          refine XS.lloadN X15.here hx rfl (hb hby at_199) rfl ?_
          show Steps p.tables e below (T15.setTop (mkF m 200 #[.val (.long p1), .second, .val (.long p2), .second, .val (.int p3), .val (.int p4), .val (.int p5), .val (.long sb), .second, .val (.int la), .val (.int a0_), .val (.int a1_), .val (.int lb), .val (.int e0_), .val (.int e1_), .val (.ref wa1), .val (.ref wb1), .val (.ref b8), .val (.ref b11), .val (.int vv14), .val (.int vv15), .unset, .unset] [(.long p1)])) _
          refine XS.lload X15.here hx rfl (hb hby at_200) rfl ?_
          show Steps p.tables e below (T15.setTop (mkF m 202 #[.val (.long p1), .second, .val (.long p2), .second, .val (.int p3), .val (.int p4), .val (.int p5), .val (.long sb), .second, .val (.int la), .val (.int a0_), .val (.int a1_), .val (.int lb), .val (.int e0_), .val (.int e1_), .val (.ref wa1), .val (.ref wb1), .val (.ref b8), .val (.ref b11), .val (.int vv14), .val (.int vv15), .unset, .unset] [(.long sb), (.long p1)])) _
          refine XS.lcmp X15.here hx rfl (hb hby at_202) rfl ?_
          show Steps p.tables e below (T15.setTop (mkF m 203 #[.val (.long p1), .second, .val (.long p2), .second, .val (.int p3), .val (.int p4), .val (.int p5), .val (.long sb), .second, .val (.int la), .val (.int a0_), .val (.int a1_), .val (.int lb), .val (.int e0_), .val (.int e1_), .val (.ref wa1), .val (.ref wb1), .val (.ref b8), .val (.ref b11), .val (.int vv14), .val (.int vv15), .unset, .unset] [(.int (lcmpW p1 sb))])) _
          refine XS.ifYes X15.here hx rfl (pc0 := 203) (pc' := 221) rfl (hb hby at_203) rfl (XT.ll_eq_t se) (by decide) (by decide) ?_
          show Steps p.tables e below (T15.setTop (mkF m 221 #[.val (.long p1), .second, .val (.long p2), .second, .val (.int p3), .val (.int p4), .val (.int p5), .val (.long sb), .second, .val (.int la), .val (.int a0_), .val (.int a1_), .val (.int lb), .val (.int e0_), .val (.int e1_), .val (.ref wa1), .val (.ref wb1), .val (.ref b8), .val (.ref b11), .val (.int vv14), .val (.int vv15), .unset, .unset] [])) _
          refine XS.iload X15.here hx rfl (hb hby at_221) rfl ?_
          show Steps p.tables e below (T15.setTop (mkF m 223 #[.val (.long p1), .second, .val (.long p2), .second, .val (.int p3), .val (.int p4), .val (.int p5), .val (.long sb), .second, .val (.int la), .val (.int a0_), .val (.int a1_), .val (.int lb), .val (.int e0_), .val (.int e1_), .val (.ref wa1), .val (.ref wb1), .val (.ref b8), .val (.ref b11), .val (.int vv14), .val (.int vv15), .unset, .unset] [(.int la)])) _
          refine XS.iload X15.here hx rfl (hb hby at_223) rfl ?_
          show Steps p.tables e below (T15.setTop (mkF m 225 #[.val (.long p1), .second, .val (.long p2), .second, .val (.int p3), .val (.int p4), .val (.int p5), .val (.long sb), .second, .val (.int la), .val (.int a0_), .val (.int a1_), .val (.int lb), .val (.int e0_), .val (.int e1_), .val (.ref wa1), .val (.ref wb1), .val (.ref b8), .val (.ref b11), .val (.int vv14), .val (.int vv15), .unset, .unset] [(.int a0_), (.int la)])) _
          refine XS.iload X15.here hx rfl (hb hby at_225) rfl ?_
          show Steps p.tables e below (T15.setTop (mkF m 227 #[.val (.long p1), .second, .val (.long p2), .second, .val (.int p3), .val (.int p4), .val (.int p5), .val (.long sb), .second, .val (.int la), .val (.int a0_), .val (.int a1_), .val (.int lb), .val (.int e0_), .val (.int e1_), .val (.ref wa1), .val (.ref wb1), .val (.ref b8), .val (.ref b11), .val (.int vv14), .val (.int vv15), .unset, .unset] [(.int a1_), (.int a0_), (.int la)])) _
          refine XS.iload X15.here hx rfl (hb hby at_227) rfl ?_
          show Steps p.tables e below (T15.setTop (mkF m 229 #[.val (.long p1), .second, .val (.long p2), .second, .val (.int p3), .val (.int p4), .val (.int p5), .val (.long sb), .second, .val (.int la), .val (.int a0_), .val (.int a1_), .val (.int lb), .val (.int e0_), .val (.int e1_), .val (.ref wa1), .val (.ref wb1), .val (.ref b8), .val (.ref b11), .val (.int vv14), .val (.int vv15), .unset, .unset] [(.int lb), (.int a1_), (.int a0_), (.int la)])) _
          refine XS.iload X15.here hx rfl (hb hby at_229) rfl ?_
          show Steps p.tables e below (T15.setTop (mkF m 231 #[.val (.long p1), .second, .val (.long p2), .second, .val (.int p3), .val (.int p4), .val (.int p5), .val (.long sb), .second, .val (.int la), .val (.int a0_), .val (.int a1_), .val (.int lb), .val (.int e0_), .val (.int e1_), .val (.ref wa1), .val (.ref wb1), .val (.ref b8), .val (.ref b11), .val (.int vv14), .val (.int vv15), .unset, .unset] [(.int e0_), (.int lb), (.int a1_), (.int a0_), (.int la)])) _
          refine XS.iload X15.here hx rfl (hb hby at_231) rfl ?_
          show Steps p.tables e below (T15.setTop (mkF m 233 #[.val (.long p1), .second, .val (.long p2), .second, .val (.int p3), .val (.int p4), .val (.int p5), .val (.long sb), .second, .val (.int la), .val (.int a0_), .val (.int a1_), .val (.int lb), .val (.int e0_), .val (.int e1_), .val (.ref wa1), .val (.ref wb1), .val (.ref b8), .val (.ref b11), .val (.int vv14), .val (.int vv15), .unset, .unset] [(.int e1_), (.int e0_), (.int lb), (.int a1_), (.int a0_), (.int la)])) _
          exact k
        -- pc 233: com/example/lockline/lockline/ContenderIsAheadOfPinLaw.less
        obtain ⟨_, _, ⟨T22, L22, k22, n22⟩, -, X22, ⟨Lc22, hQ22, l22, y22, z22⟩, st22⟩ := Jvm.LawKit.callS X15 hx (y := (⟨"com/example/lockline/lockline/ContenderIsAheadOfPinLaw", "less", "(ICCICC)Z"⟩ : MethodName)) hown (mvT hZ (hw _ (List.mem_of_getElem? (i := 106) rfl))) (mvT hZ (hw _ (List.mem_of_getElem? (i := 107) rfl))) (mvT hZ (hw _ (List.mem_of_getElem? (i := 8) rfl))) (mvT hZ (hw _ (List.mem_of_getElem? (i := 108) rfl))) (by decide) (backOf (W := 0) (rmLess l Z a0 hw [] la a0_ a1_ lb e0_ e1_ T13.heap n0 O ) hZ (hw _ (List.mem_of_getElem? (i := 108) rfl)) (hw _ (List.mem_of_getElem? (i := 8) rfl)) (by decide) (by decide)) (g := (mkF m 233 #[.val (.long p1), .second, .val (.long p2), .second, .val (.int p3), .val (.int p4), .val (.int p5), .val (.long sb), .second, .val (.int la), .val (.int a0_), .val (.int a1_), .val (.int lb), .val (.int e0_), .val (.int e1_), .val (.ref wa1), .val (.ref wb1), .val (.ref b8), .val (.ref b11), .val (.int vv14), .val (.int vv15), .unset, .unset] [(.int e1_), (.int e0_), (.int lb), (.int a1_), (.int a0_), (.int la)])) rfl (by rw [hml]; rfl) (argsL := [(.int la), (.int a0_), (.int a1_), (.int lb), (.int e0_), (.int e1_)]) (rest := []) (lenOf pd_17 rfl) rfl (by show 2 * 0 + _ ≤ _; exact Nat.le_of_eq rfl) (hb hby at_233) (fun _ hWm => ⟨rfl, Kq15, (by decide : 10 + 0 ≤ _), (by decide : 22 + 0 ≤ _)⟩)
        dsimp only [Pt.U, Pt.locs, Pt.cells, Pt.slots] at X22 l22 y22 z22 st22 hQ22
        subst l22 y22 z22
        obtain ⟨vv22, rfl, Nq22, Kq22, cq22_0, cq22_1⟩ := hQ22
        replace N := Fr.app N Nq22
        refine own_go (B := T22.setTop (mkF m 236 #[.val (.long p1), .second, .val (.long p2), .second, .val (.int p3), .val (.int p4), .val (.int p5), .val (.long sb), .second, .val (.int la), .val (.int a0_), .val (.int a1_), .val (.int lb), .val (.int e0_), .val (.int e1_), .val (.ref wa1), .val (.ref wb1), .val (.ref b8), .val (.ref b11), .val (.int vv14), .val (.int vv15), .unset, .unset] [(.int vv22)])) st22 ?_
        refine own_go (B := T22.setTop (mkF m 272 #[.val (.long p1), .second, .val (.long p2), .second, .val (.int p3), .val (.int p4), .val (.int p5), .val (.long sb), .second, .val (.int la), .val (.int a0_), .val (.int a1_), .val (.int lb), .val (.int e0_), .val (.int e1_), .val (.ref wa1), .val (.ref wb1), .val (.ref b8), .val (.ref b11), .val (.int vv14), .val (.int vv15), .val (.int vv22), .unset] [(.int a1_), (.int a0_), (.int la), (.int e1_), (.int e0_), (.int lb)])) (fun t k => ?_) ?_
        · show Steps p.tables e below (T22.setTop (mkF m 236 #[.val (.long p1), .second, .val (.long p2), .second, .val (.int p3), .val (.int p4), .val (.int p5), .val (.long sb), .second, .val (.int la), .val (.int a0_), .val (.int a1_), .val (.int lb), .val (.int e0_), .val (.int e1_), .val (.ref wa1), .val (.ref wb1), .val (.ref b8), .val (.ref b11), .val (.int vv14), .val (.int vv15), .unset, .unset] [(.int vv22)])) _
          refine XS.istore X22.here hx rfl (hb hby at_236) rfl (l' := #[.val (.long p1), .second, .val (.long p2), .second, .val (.int p3), .val (.int p4), .val (.int p5), .val (.long sb), .second, .val (.int la), .val (.int a0_), .val (.int a1_), .val (.int lb), .val (.int e0_), .val (.int e1_), .val (.ref wa1), .val (.ref wb1), .val (.ref b8), .val (.ref b11), .val (.int vv14), .val (.int vv15), .val (.int vv22), .unset]) rfl ?_
          show Steps p.tables e below (T22.setTop (mkF m 238 #[.val (.long p1), .second, .val (.long p2), .second, .val (.int p3), .val (.int p4), .val (.int p5), .val (.long sb), .second, .val (.int la), .val (.int a0_), .val (.int a1_), .val (.int lb), .val (.int e0_), .val (.int e1_), .val (.ref wa1), .val (.ref wb1), .val (.ref b8), .val (.ref b11), .val (.int vv14), .val (.int vv15), .val (.int vv22), .unset] [])) _
          refine XS.lloadN X22.here hx rfl (hb hby at_238) rfl ?_
          show Steps p.tables e below (T22.setTop (mkF m 239 #[.val (.long p1), .second, .val (.long p2), .second, .val (.int p3), .val (.int p4), .val (.int p5), .val (.long sb), .second, .val (.int la), .val (.int a0_), .val (.int a1_), .val (.int lb), .val (.int e0_), .val (.int e1_), .val (.ref wa1), .val (.ref wb1), .val (.ref b8), .val (.ref b11), .val (.int vv14), .val (.int vv15), .val (.int vv22), .unset] [(.long p1)])) _
          refine XS.lload X22.here hx rfl (hb hby at_239) rfl ?_
          show Steps p.tables e below (T22.setTop (mkF m 241 #[.val (.long p1), .second, .val (.long p2), .second, .val (.int p3), .val (.int p4), .val (.int p5), .val (.long sb), .second, .val (.int la), .val (.int a0_), .val (.int a1_), .val (.int lb), .val (.int e0_), .val (.int e1_), .val (.ref wa1), .val (.ref wb1), .val (.ref b8), .val (.ref b11), .val (.int vv14), .val (.int vv15), .val (.int vv22), .unset] [(.long sb), (.long p1)])) _
          refine XS.lcmp X22.here hx rfl (hb hby at_241) rfl ?_
          show Steps p.tables e below (T22.setTop (mkF m 242 #[.val (.long p1), .second, .val (.long p2), .second, .val (.int p3), .val (.int p4), .val (.int p5), .val (.long sb), .second, .val (.int la), .val (.int a0_), .val (.int a1_), .val (.int lb), .val (.int e0_), .val (.int e1_), .val (.ref wa1), .val (.ref wb1), .val (.ref b8), .val (.ref b11), .val (.int vv14), .val (.int vv15), .val (.int vv22), .unset] [(.int (lcmpW p1 sb))])) _
          refine XS.ifYes X22.here hx rfl (pc0 := 242) (pc' := 260) rfl (hb hby at_242) rfl (XT.ll_eq_t se) (by decide) (by decide) ?_
          show Steps p.tables e below (T22.setTop (mkF m 260 #[.val (.long p1), .second, .val (.long p2), .second, .val (.int p3), .val (.int p4), .val (.int p5), .val (.long sb), .second, .val (.int la), .val (.int a0_), .val (.int a1_), .val (.int lb), .val (.int e0_), .val (.int e1_), .val (.ref wa1), .val (.ref wb1), .val (.ref b8), .val (.ref b11), .val (.int vv14), .val (.int vv15), .val (.int vv22), .unset] [])) _
          refine XS.iload X22.here hx rfl (hb hby at_260) rfl ?_
          show Steps p.tables e below (T22.setTop (mkF m 262 #[.val (.long p1), .second, .val (.long p2), .second, .val (.int p3), .val (.int p4), .val (.int p5), .val (.long sb), .second, .val (.int la), .val (.int a0_), .val (.int a1_), .val (.int lb), .val (.int e0_), .val (.int e1_), .val (.ref wa1), .val (.ref wb1), .val (.ref b8), .val (.ref b11), .val (.int vv14), .val (.int vv15), .val (.int vv22), .unset] [(.int lb)])) _
          refine XS.iload X22.here hx rfl (hb hby at_262) rfl ?_
          show Steps p.tables e below (T22.setTop (mkF m 264 #[.val (.long p1), .second, .val (.long p2), .second, .val (.int p3), .val (.int p4), .val (.int p5), .val (.long sb), .second, .val (.int la), .val (.int a0_), .val (.int a1_), .val (.int lb), .val (.int e0_), .val (.int e1_), .val (.ref wa1), .val (.ref wb1), .val (.ref b8), .val (.ref b11), .val (.int vv14), .val (.int vv15), .val (.int vv22), .unset] [(.int e0_), (.int lb)])) _
          refine XS.iload X22.here hx rfl (hb hby at_264) rfl ?_
          show Steps p.tables e below (T22.setTop (mkF m 266 #[.val (.long p1), .second, .val (.long p2), .second, .val (.int p3), .val (.int p4), .val (.int p5), .val (.long sb), .second, .val (.int la), .val (.int a0_), .val (.int a1_), .val (.int lb), .val (.int e0_), .val (.int e1_), .val (.ref wa1), .val (.ref wb1), .val (.ref b8), .val (.ref b11), .val (.int vv14), .val (.int vv15), .val (.int vv22), .unset] [(.int e1_), (.int e0_), (.int lb)])) _
          refine XS.iload X22.here hx rfl (hb hby at_266) rfl ?_
          show Steps p.tables e below (T22.setTop (mkF m 268 #[.val (.long p1), .second, .val (.long p2), .second, .val (.int p3), .val (.int p4), .val (.int p5), .val (.long sb), .second, .val (.int la), .val (.int a0_), .val (.int a1_), .val (.int lb), .val (.int e0_), .val (.int e1_), .val (.ref wa1), .val (.ref wb1), .val (.ref b8), .val (.ref b11), .val (.int vv14), .val (.int vv15), .val (.int vv22), .unset] [(.int la), (.int e1_), (.int e0_), (.int lb)])) _
          refine XS.iload X22.here hx rfl (hb hby at_268) rfl ?_
          show Steps p.tables e below (T22.setTop (mkF m 270 #[.val (.long p1), .second, .val (.long p2), .second, .val (.int p3), .val (.int p4), .val (.int p5), .val (.long sb), .second, .val (.int la), .val (.int a0_), .val (.int a1_), .val (.int lb), .val (.int e0_), .val (.int e1_), .val (.ref wa1), .val (.ref wb1), .val (.ref b8), .val (.ref b11), .val (.int vv14), .val (.int vv15), .val (.int vv22), .unset] [(.int a0_), (.int la), (.int e1_), (.int e0_), (.int lb)])) _
          refine XS.iload X22.here hx rfl (hb hby at_270) rfl ?_
          show Steps p.tables e below (T22.setTop (mkF m 272 #[.val (.long p1), .second, .val (.long p2), .second, .val (.int p3), .val (.int p4), .val (.int p5), .val (.long sb), .second, .val (.int la), .val (.int a0_), .val (.int a1_), .val (.int lb), .val (.int e0_), .val (.int e1_), .val (.ref wa1), .val (.ref wb1), .val (.ref b8), .val (.ref b11), .val (.int vv14), .val (.int vv15), .val (.int vv22), .unset] [(.int a1_), (.int a0_), (.int la), (.int e1_), (.int e0_), (.int lb)])) _
          exact k
        -- pc 272: com/example/lockline/lockline/ContenderIsAheadOfPinLaw.less
        obtain ⟨_, _, ⟨T23, L23, k23, n23⟩, -, X23, ⟨Lc23, hQ23, l23, y23, z23⟩, st23⟩ := Jvm.LawKit.callS X22 hx (y := (⟨"com/example/lockline/lockline/ContenderIsAheadOfPinLaw", "less", "(ICCICC)Z"⟩ : MethodName)) hown (mvT hZ (hw _ (List.mem_of_getElem? (i := 106) rfl))) (mvT hZ (hw _ (List.mem_of_getElem? (i := 107) rfl))) (mvT hZ (hw _ (List.mem_of_getElem? (i := 8) rfl))) (mvT hZ (hw _ (List.mem_of_getElem? (i := 108) rfl))) (by decide) (backOf (W := 0) (rmLess l Z a0 hw [] lb e0_ e1_ la a0_ a1_ T13.heap n0 O ) hZ (hw _ (List.mem_of_getElem? (i := 108) rfl)) (hw _ (List.mem_of_getElem? (i := 8) rfl)) (by decide) (by decide)) (g := (mkF m 272 #[.val (.long p1), .second, .val (.long p2), .second, .val (.int p3), .val (.int p4), .val (.int p5), .val (.long sb), .second, .val (.int la), .val (.int a0_), .val (.int a1_), .val (.int lb), .val (.int e0_), .val (.int e1_), .val (.ref wa1), .val (.ref wb1), .val (.ref b8), .val (.ref b11), .val (.int vv14), .val (.int vv15), .val (.int vv22), .unset] [(.int a1_), (.int a0_), (.int la), (.int e1_), (.int e0_), (.int lb)])) rfl (by rw [hml]; rfl) (argsL := [(.int lb), (.int e0_), (.int e1_), (.int la), (.int a0_), (.int a1_)]) (rest := []) (lenOf pd_17 rfl) rfl (by show 2 * 0 + _ ≤ _; exact Nat.le_of_eq rfl) (hb hby at_272) (fun _ hWm => ⟨rfl, Kq22, (by decide : 10 + 0 ≤ _), (by decide : 22 + 0 ≤ _)⟩)
        dsimp only [Pt.U, Pt.locs, Pt.cells, Pt.slots] at X23 l23 y23 z23 st23 hQ23
        subst l23 y23 z23
        obtain ⟨vv23, rfl, Nq23, Kq23, cq23_0, cq23_1⟩ := hQ23
        replace N := Fr.app N Nq23
        refine own_go (B := T23.setTop (mkF m 275 #[.val (.long p1), .second, .val (.long p2), .second, .val (.int p3), .val (.int p4), .val (.int p5), .val (.long sb), .second, .val (.int la), .val (.int a0_), .val (.int a1_), .val (.int lb), .val (.int e0_), .val (.int e1_), .val (.ref wa1), .val (.ref wb1), .val (.ref b8), .val (.ref b11), .val (.int vv14), .val (.int vv15), .val (.int vv22), .unset] [(.int vv23)])) st23 ?_
        refine own_go (B := T23.setTop (mkF m 296 #[.val (.long p1), .second, .val (.long p2), .second, .val (.int p3), .val (.int p4), .val (.int p5), .val (.long sb), .second, .val (.int la), .val (.int a0_), .val (.int a1_), .val (.int lb), .val (.int e0_), .val (.int e1_), .val (.ref wa1), .val (.ref wb1), .val (.ref b8), .val (.ref b11), .val (.int vv14), .val (.int vv15), .val (.int vv22), .val (.int vv23)] [(.int (1 : Int32))])) (fun t k => ?_) ?_
        · show Steps p.tables e below (T23.setTop (mkF m 275 #[.val (.long p1), .second, .val (.long p2), .second, .val (.int p3), .val (.int p4), .val (.int p5), .val (.long sb), .second, .val (.int la), .val (.int a0_), .val (.int a1_), .val (.int lb), .val (.int e0_), .val (.int e1_), .val (.ref wa1), .val (.ref wb1), .val (.ref b8), .val (.ref b11), .val (.int vv14), .val (.int vv15), .val (.int vv22), .unset] [(.int vv23)])) _
          refine XS.istore X23.here hx rfl (hb hby at_275) rfl (l' := #[.val (.long p1), .second, .val (.long p2), .second, .val (.int p3), .val (.int p4), .val (.int p5), .val (.long sb), .second, .val (.int la), .val (.int a0_), .val (.int a1_), .val (.int lb), .val (.int e0_), .val (.int e1_), .val (.ref wa1), .val (.ref wb1), .val (.ref b8), .val (.ref b11), .val (.int vv14), .val (.int vv15), .val (.int vv22), .val (.int vv23)]) rfl ?_
          show Steps p.tables e below (T23.setTop (mkF m 277 #[.val (.long p1), .second, .val (.long p2), .second, .val (.int p3), .val (.int p4), .val (.int p5), .val (.long sb), .second, .val (.int la), .val (.int a0_), .val (.int a1_), .val (.int lb), .val (.int e0_), .val (.int e1_), .val (.ref wa1), .val (.ref wb1), .val (.ref b8), .val (.ref b11), .val (.int vv14), .val (.int vv15), .val (.int vv22), .val (.int vv23)] [])) _
          refine XS.iload X23.here hx rfl (hb hby at_277) rfl ?_
          show Steps p.tables e below (T23.setTop (mkF m 279 #[.val (.long p1), .second, .val (.long p2), .second, .val (.int p3), .val (.int p4), .val (.int p5), .val (.long sb), .second, .val (.int la), .val (.int a0_), .val (.int a1_), .val (.int lb), .val (.int e0_), .val (.int e1_), .val (.ref wa1), .val (.ref wb1), .val (.ref b8), .val (.ref b11), .val (.int vv14), .val (.int vv15), .val (.int vv22), .val (.int vv23)] [(.int vv14)])) _
          refine XS.iload X23.here hx rfl (hb hby at_279) rfl ?_
          show Steps p.tables e below (T23.setTop (mkF m 281 #[.val (.long p1), .second, .val (.long p2), .second, .val (.int p3), .val (.int p4), .val (.int p5), .val (.long sb), .second, .val (.int la), .val (.int a0_), .val (.int a1_), .val (.int lb), .val (.int e0_), .val (.int e1_), .val (.ref wa1), .val (.ref wb1), .val (.ref b8), .val (.ref b11), .val (.int vv14), .val (.int vv15), .val (.int vv22), .val (.int vv23)] [(.int vv22), (.int vv14)])) _
          refine XS.icmpNo X23.here hx rfl (hb hby at_281) rfl (teq ((cq14_1 (fun z => z.elim (fun z => z.1 se) (fun z => f1 (hA.mp z.2)))).trans (cq22_1 f1).symm)).2 ?_
          show Steps p.tables e below (T23.setTop (mkF m 284 #[.val (.long p1), .second, .val (.long p2), .second, .val (.int p3), .val (.int p4), .val (.int p5), .val (.long sb), .second, .val (.int la), .val (.int a0_), .val (.int a1_), .val (.int lb), .val (.int e0_), .val (.int e1_), .val (.ref wa1), .val (.ref wb1), .val (.ref b8), .val (.ref b11), .val (.int vv14), .val (.int vv15), .val (.int vv22), .val (.int vv23)] [])) _
          refine XS.iload X23.here hx rfl (hb hby at_284) rfl ?_
          show Steps p.tables e below (T23.setTop (mkF m 286 #[.val (.long p1), .second, .val (.long p2), .second, .val (.int p3), .val (.int p4), .val (.int p5), .val (.long sb), .second, .val (.int la), .val (.int a0_), .val (.int a1_), .val (.int lb), .val (.int e0_), .val (.int e1_), .val (.ref wa1), .val (.ref wb1), .val (.ref b8), .val (.ref b11), .val (.int vv14), .val (.int vv15), .val (.int vv22), .val (.int vv23)] [(.int vv15)])) _
          refine XS.iload X23.here hx rfl (hb hby at_286) rfl ?_
          show Steps p.tables e below (T23.setTop (mkF m 288 #[.val (.long p1), .second, .val (.long p2), .second, .val (.int p3), .val (.int p4), .val (.int p5), .val (.long sb), .second, .val (.int la), .val (.int a0_), .val (.int a1_), .val (.int lb), .val (.int e0_), .val (.int e1_), .val (.ref wa1), .val (.ref wb1), .val (.ref b8), .val (.ref b11), .val (.int vv14), .val (.int vv15), .val (.int vv22), .val (.int vv23)] [(.int vv23), (.int vv15)])) _
          refine XS.icmpNo X23.here hx rfl (hb hby at_288) rfl (teq ((cq15_0 (Or.inr ⟨se.symm, hB.mpr f2⟩)).trans (cq23_0 f2).symm)).2 ?_
          show Steps p.tables e below (T23.setTop (mkF m 291 #[.val (.long p1), .second, .val (.long p2), .second, .val (.int p3), .val (.int p4), .val (.int p5), .val (.long sb), .second, .val (.int la), .val (.int a0_), .val (.int a1_), .val (.int lb), .val (.int e0_), .val (.int e1_), .val (.ref wa1), .val (.ref wb1), .val (.ref b8), .val (.ref b11), .val (.int vv14), .val (.int vv15), .val (.int vv22), .val (.int vv23)] [])) _
          refine XS.iconst X23.here hx rfl (hb hby at_291) ?_
          show Steps p.tables e below (T23.setTop (mkF m 292 #[.val (.long p1), .second, .val (.long p2), .second, .val (.int p3), .val (.int p4), .val (.int p5), .val (.long sb), .second, .val (.int la), .val (.int a0_), .val (.int a1_), .val (.int lb), .val (.int e0_), .val (.int e1_), .val (.ref wa1), .val (.ref wb1), .val (.ref b8), .val (.ref b11), .val (.int vv14), .val (.int vv15), .val (.int vv22), .val (.int vv23)] [(.int (1 : Int32))])) _
          refine XS.goto X23.here hx rfl (pc0 := 292) (pc' := 296) rfl (hb hby at_292) (by decide) (by decide) ?_
          show Steps p.tables e below (T23.setTop (mkF m 296 #[.val (.long p1), .second, .val (.long p2), .second, .val (.int p3), .val (.int p4), .val (.int p5), .val (.long sb), .second, .val (.int la), .val (.int a0_), .val (.int a1_), .val (.int lb), .val (.int e0_), .val (.int e1_), .val (.ref wa1), .val (.ref wb1), .val (.ref b8), .val (.ref b11), .val (.int vv14), .val (.int vv15), .val (.int vv22), .val (.int vv23)] [(.int (1 : Int32))])) _
          exact k
        obtain ⟨fs, hr, hrun, hended, hEnd⟩ := X23.leaveW hS (by rw [Kq23]; exact hk) (v := some (.int (1 : Int32))) (fun h => by rw [Bd.returns] at h; cases h)
        refine ⟨_, _, retN X23 hx (t := .boolean) Bd.returns (by simp) (hb hby at_296) hr, hfin _ _ ⟨hrun, hended, _, _, rfl, ?_, hEnd.1, hEnd.2.1, hEnd.2.2.1, hEnd.2.2.2.mono (by decide) (by decide)⟩⟩
        show Q0 Z p1 p2 p3 p4 p5 wR wW zc h0 n0 _ T23.heap _
        rw [Kq23]
        exact ⟨rfl, N⟩
      · refine own_go (B := T15.setTop (mkF m 233 #[.val (.long p1), .second, .val (.long p2), .second, .val (.int p3), .val (.int p4), .val (.int p5), .val (.long sb), .second, .val (.int la), .val (.int a0_), .val (.int a1_), .val (.int lb), .val (.int e0_), .val (.int e1_), .val (.ref wa1), .val (.ref wb1), .val (.ref b8), .val (.ref b11), .val (.int vv14), .val (.int vv15), .unset, .unset] [(.int e1_), (.int e0_), (.int lb), (.int a1_), (.int a0_), (.int la)])) (fun t k => ?_) ?_
        · show Steps p.tables e below (T15.setTop (mkF m 199 #[.val (.long p1), .second, .val (.long p2), .second, .val (.int p3), .val (.int p4), .val (.int p5), .val (.long sb), .second, .val (.int la), .val (.int a0_), .val (.int a1_), .val (.int lb), .val (.int e0_), .val (.int e1_), .val (.ref wa1), .val (.ref wb1), .val (.ref b8), .val (.ref b11), .val (.int vv14), .val (.int vv15), .unset, .unset] [])) _
          refine XS.lloadN X15.here hx rfl (hb hby at_199) rfl ?_
          show Steps p.tables e below (T15.setTop (mkF m 200 #[.val (.long p1), .second, .val (.long p2), .second, .val (.int p3), .val (.int p4), .val (.int p5), .val (.long sb), .second, .val (.int la), .val (.int a0_), .val (.int a1_), .val (.int lb), .val (.int e0_), .val (.int e1_), .val (.ref wa1), .val (.ref wb1), .val (.ref b8), .val (.ref b11), .val (.int vv14), .val (.int vv15), .unset, .unset] [(.long p1)])) _
          refine XS.lload X15.here hx rfl (hb hby at_200) rfl ?_
          show Steps p.tables e below (T15.setTop (mkF m 202 #[.val (.long p1), .second, .val (.long p2), .second, .val (.int p3), .val (.int p4), .val (.int p5), .val (.long sb), .second, .val (.int la), .val (.int a0_), .val (.int a1_), .val (.int lb), .val (.int e0_), .val (.int e1_), .val (.ref wa1), .val (.ref wb1), .val (.ref b8), .val (.ref b11), .val (.int vv14), .val (.int vv15), .unset, .unset] [(.long sb), (.long p1)])) _
          refine XS.lcmp X15.here hx rfl (hb hby at_202) rfl ?_
          show Steps p.tables e below (T15.setTop (mkF m 203 #[.val (.long p1), .second, .val (.long p2), .second, .val (.int p3), .val (.int p4), .val (.int p5), .val (.long sb), .second, .val (.int la), .val (.int a0_), .val (.int a1_), .val (.int lb), .val (.int e0_), .val (.int e1_), .val (.ref wa1), .val (.ref wb1), .val (.ref b8), .val (.ref b11), .val (.int vv14), .val (.int vv15), .unset, .unset] [(.int (lcmpW p1 sb))])) _
          refine XS.ifYes X15.here hx rfl (pc0 := 203) (pc' := 221) rfl (hb hby at_203) rfl (XT.ll_eq_t se) (by decide) (by decide) ?_
          show Steps p.tables e below (T15.setTop (mkF m 221 #[.val (.long p1), .second, .val (.long p2), .second, .val (.int p3), .val (.int p4), .val (.int p5), .val (.long sb), .second, .val (.int la), .val (.int a0_), .val (.int a1_), .val (.int lb), .val (.int e0_), .val (.int e1_), .val (.ref wa1), .val (.ref wb1), .val (.ref b8), .val (.ref b11), .val (.int vv14), .val (.int vv15), .unset, .unset] [])) _
          refine XS.iload X15.here hx rfl (hb hby at_221) rfl ?_
          show Steps p.tables e below (T15.setTop (mkF m 223 #[.val (.long p1), .second, .val (.long p2), .second, .val (.int p3), .val (.int p4), .val (.int p5), .val (.long sb), .second, .val (.int la), .val (.int a0_), .val (.int a1_), .val (.int lb), .val (.int e0_), .val (.int e1_), .val (.ref wa1), .val (.ref wb1), .val (.ref b8), .val (.ref b11), .val (.int vv14), .val (.int vv15), .unset, .unset] [(.int la)])) _
          refine XS.iload X15.here hx rfl (hb hby at_223) rfl ?_
          show Steps p.tables e below (T15.setTop (mkF m 225 #[.val (.long p1), .second, .val (.long p2), .second, .val (.int p3), .val (.int p4), .val (.int p5), .val (.long sb), .second, .val (.int la), .val (.int a0_), .val (.int a1_), .val (.int lb), .val (.int e0_), .val (.int e1_), .val (.ref wa1), .val (.ref wb1), .val (.ref b8), .val (.ref b11), .val (.int vv14), .val (.int vv15), .unset, .unset] [(.int a0_), (.int la)])) _
          refine XS.iload X15.here hx rfl (hb hby at_225) rfl ?_
          show Steps p.tables e below (T15.setTop (mkF m 227 #[.val (.long p1), .second, .val (.long p2), .second, .val (.int p3), .val (.int p4), .val (.int p5), .val (.long sb), .second, .val (.int la), .val (.int a0_), .val (.int a1_), .val (.int lb), .val (.int e0_), .val (.int e1_), .val (.ref wa1), .val (.ref wb1), .val (.ref b8), .val (.ref b11), .val (.int vv14), .val (.int vv15), .unset, .unset] [(.int a1_), (.int a0_), (.int la)])) _
          refine XS.iload X15.here hx rfl (hb hby at_227) rfl ?_
          show Steps p.tables e below (T15.setTop (mkF m 229 #[.val (.long p1), .second, .val (.long p2), .second, .val (.int p3), .val (.int p4), .val (.int p5), .val (.long sb), .second, .val (.int la), .val (.int a0_), .val (.int a1_), .val (.int lb), .val (.int e0_), .val (.int e1_), .val (.ref wa1), .val (.ref wb1), .val (.ref b8), .val (.ref b11), .val (.int vv14), .val (.int vv15), .unset, .unset] [(.int lb), (.int a1_), (.int a0_), (.int la)])) _
          refine XS.iload X15.here hx rfl (hb hby at_229) rfl ?_
          show Steps p.tables e below (T15.setTop (mkF m 231 #[.val (.long p1), .second, .val (.long p2), .second, .val (.int p3), .val (.int p4), .val (.int p5), .val (.long sb), .second, .val (.int la), .val (.int a0_), .val (.int a1_), .val (.int lb), .val (.int e0_), .val (.int e1_), .val (.ref wa1), .val (.ref wb1), .val (.ref b8), .val (.ref b11), .val (.int vv14), .val (.int vv15), .unset, .unset] [(.int e0_), (.int lb), (.int a1_), (.int a0_), (.int la)])) _
          refine XS.iload X15.here hx rfl (hb hby at_231) rfl ?_
          show Steps p.tables e below (T15.setTop (mkF m 233 #[.val (.long p1), .second, .val (.long p2), .second, .val (.int p3), .val (.int p4), .val (.int p5), .val (.long sb), .second, .val (.int la), .val (.int a0_), .val (.int a1_), .val (.int lb), .val (.int e0_), .val (.int e1_), .val (.ref wa1), .val (.ref wb1), .val (.ref b8), .val (.ref b11), .val (.int vv14), .val (.int vv15), .unset, .unset] [(.int e1_), (.int e0_), (.int lb), (.int a1_), (.int a0_), (.int la)])) _
          exact k
        -- pc 233: com/example/lockline/lockline/ContenderIsAheadOfPinLaw.less
        obtain ⟨_, _, ⟨T25, L25, k25, n25⟩, -, X25, ⟨Lc25, hQ25, l25, y25, z25⟩, st25⟩ := Jvm.LawKit.callS X15 hx (y := (⟨"com/example/lockline/lockline/ContenderIsAheadOfPinLaw", "less", "(ICCICC)Z"⟩ : MethodName)) hown (mvT hZ (hw _ (List.mem_of_getElem? (i := 106) rfl))) (mvT hZ (hw _ (List.mem_of_getElem? (i := 107) rfl))) (mvT hZ (hw _ (List.mem_of_getElem? (i := 8) rfl))) (mvT hZ (hw _ (List.mem_of_getElem? (i := 108) rfl))) (by decide) (backOf (W := 0) (rmLess l Z a0 hw [] la a0_ a1_ lb e0_ e1_ T13.heap n0 O ) hZ (hw _ (List.mem_of_getElem? (i := 108) rfl)) (hw _ (List.mem_of_getElem? (i := 8) rfl)) (by decide) (by decide)) (g := (mkF m 233 #[.val (.long p1), .second, .val (.long p2), .second, .val (.int p3), .val (.int p4), .val (.int p5), .val (.long sb), .second, .val (.int la), .val (.int a0_), .val (.int a1_), .val (.int lb), .val (.int e0_), .val (.int e1_), .val (.ref wa1), .val (.ref wb1), .val (.ref b8), .val (.ref b11), .val (.int vv14), .val (.int vv15), .unset, .unset] [(.int e1_), (.int e0_), (.int lb), (.int a1_), (.int a0_), (.int la)])) rfl (by rw [hml]; rfl) (argsL := [(.int la), (.int a0_), (.int a1_), (.int lb), (.int e0_), (.int e1_)]) (rest := []) (lenOf pd_17 rfl) rfl (by show 2 * 0 + _ ≤ _; exact Nat.le_of_eq rfl) (hb hby at_233) (fun _ hWm => ⟨rfl, Kq15, (by decide : 10 + 0 ≤ _), (by decide : 22 + 0 ≤ _)⟩)
        dsimp only [Pt.U, Pt.locs, Pt.cells, Pt.slots] at X25 l25 y25 z25 st25 hQ25
        subst l25 y25 z25
        obtain ⟨vv25, rfl, Nq25, Kq25, cq25_0, cq25_1⟩ := hQ25
        replace N := Fr.app N Nq25
        refine own_go (B := T25.setTop (mkF m 236 #[.val (.long p1), .second, .val (.long p2), .second, .val (.int p3), .val (.int p4), .val (.int p5), .val (.long sb), .second, .val (.int la), .val (.int a0_), .val (.int a1_), .val (.int lb), .val (.int e0_), .val (.int e1_), .val (.ref wa1), .val (.ref wb1), .val (.ref b8), .val (.ref b11), .val (.int vv14), .val (.int vv15), .unset, .unset] [(.int vv25)])) st25 ?_
        refine own_go (B := T25.setTop (mkF m 272 #[.val (.long p1), .second, .val (.long p2), .second, .val (.int p3), .val (.int p4), .val (.int p5), .val (.long sb), .second, .val (.int la), .val (.int a0_), .val (.int a1_), .val (.int lb), .val (.int e0_), .val (.int e1_), .val (.ref wa1), .val (.ref wb1), .val (.ref b8), .val (.ref b11), .val (.int vv14), .val (.int vv15), .val (.int vv25), .unset] [(.int a1_), (.int a0_), (.int la), (.int e1_), (.int e0_), (.int lb)])) (fun t k => ?_) ?_
        · show Steps p.tables e below (T25.setTop (mkF m 236 #[.val (.long p1), .second, .val (.long p2), .second, .val (.int p3), .val (.int p4), .val (.int p5), .val (.long sb), .second, .val (.int la), .val (.int a0_), .val (.int a1_), .val (.int lb), .val (.int e0_), .val (.int e1_), .val (.ref wa1), .val (.ref wb1), .val (.ref b8), .val (.ref b11), .val (.int vv14), .val (.int vv15), .unset, .unset] [(.int vv25)])) _
          refine XS.istore X25.here hx rfl (hb hby at_236) rfl (l' := #[.val (.long p1), .second, .val (.long p2), .second, .val (.int p3), .val (.int p4), .val (.int p5), .val (.long sb), .second, .val (.int la), .val (.int a0_), .val (.int a1_), .val (.int lb), .val (.int e0_), .val (.int e1_), .val (.ref wa1), .val (.ref wb1), .val (.ref b8), .val (.ref b11), .val (.int vv14), .val (.int vv15), .val (.int vv25), .unset]) rfl ?_
          show Steps p.tables e below (T25.setTop (mkF m 238 #[.val (.long p1), .second, .val (.long p2), .second, .val (.int p3), .val (.int p4), .val (.int p5), .val (.long sb), .second, .val (.int la), .val (.int a0_), .val (.int a1_), .val (.int lb), .val (.int e0_), .val (.int e1_), .val (.ref wa1), .val (.ref wb1), .val (.ref b8), .val (.ref b11), .val (.int vv14), .val (.int vv15), .val (.int vv25), .unset] [])) _
          refine XS.lloadN X25.here hx rfl (hb hby at_238) rfl ?_
          show Steps p.tables e below (T25.setTop (mkF m 239 #[.val (.long p1), .second, .val (.long p2), .second, .val (.int p3), .val (.int p4), .val (.int p5), .val (.long sb), .second, .val (.int la), .val (.int a0_), .val (.int a1_), .val (.int lb), .val (.int e0_), .val (.int e1_), .val (.ref wa1), .val (.ref wb1), .val (.ref b8), .val (.ref b11), .val (.int vv14), .val (.int vv15), .val (.int vv25), .unset] [(.long p1)])) _
          refine XS.lload X25.here hx rfl (hb hby at_239) rfl ?_
          show Steps p.tables e below (T25.setTop (mkF m 241 #[.val (.long p1), .second, .val (.long p2), .second, .val (.int p3), .val (.int p4), .val (.int p5), .val (.long sb), .second, .val (.int la), .val (.int a0_), .val (.int a1_), .val (.int lb), .val (.int e0_), .val (.int e1_), .val (.ref wa1), .val (.ref wb1), .val (.ref b8), .val (.ref b11), .val (.int vv14), .val (.int vv15), .val (.int vv25), .unset] [(.long sb), (.long p1)])) _
          refine XS.lcmp X25.here hx rfl (hb hby at_241) rfl ?_
          show Steps p.tables e below (T25.setTop (mkF m 242 #[.val (.long p1), .second, .val (.long p2), .second, .val (.int p3), .val (.int p4), .val (.int p5), .val (.long sb), .second, .val (.int la), .val (.int a0_), .val (.int a1_), .val (.int lb), .val (.int e0_), .val (.int e1_), .val (.ref wa1), .val (.ref wb1), .val (.ref b8), .val (.ref b11), .val (.int vv14), .val (.int vv15), .val (.int vv25), .unset] [(.int (lcmpW p1 sb))])) _
          refine XS.ifYes X25.here hx rfl (pc0 := 242) (pc' := 260) rfl (hb hby at_242) rfl (XT.ll_eq_t se) (by decide) (by decide) ?_
          show Steps p.tables e below (T25.setTop (mkF m 260 #[.val (.long p1), .second, .val (.long p2), .second, .val (.int p3), .val (.int p4), .val (.int p5), .val (.long sb), .second, .val (.int la), .val (.int a0_), .val (.int a1_), .val (.int lb), .val (.int e0_), .val (.int e1_), .val (.ref wa1), .val (.ref wb1), .val (.ref b8), .val (.ref b11), .val (.int vv14), .val (.int vv15), .val (.int vv25), .unset] [])) _
          refine XS.iload X25.here hx rfl (hb hby at_260) rfl ?_
          show Steps p.tables e below (T25.setTop (mkF m 262 #[.val (.long p1), .second, .val (.long p2), .second, .val (.int p3), .val (.int p4), .val (.int p5), .val (.long sb), .second, .val (.int la), .val (.int a0_), .val (.int a1_), .val (.int lb), .val (.int e0_), .val (.int e1_), .val (.ref wa1), .val (.ref wb1), .val (.ref b8), .val (.ref b11), .val (.int vv14), .val (.int vv15), .val (.int vv25), .unset] [(.int lb)])) _
          refine XS.iload X25.here hx rfl (hb hby at_262) rfl ?_
          show Steps p.tables e below (T25.setTop (mkF m 264 #[.val (.long p1), .second, .val (.long p2), .second, .val (.int p3), .val (.int p4), .val (.int p5), .val (.long sb), .second, .val (.int la), .val (.int a0_), .val (.int a1_), .val (.int lb), .val (.int e0_), .val (.int e1_), .val (.ref wa1), .val (.ref wb1), .val (.ref b8), .val (.ref b11), .val (.int vv14), .val (.int vv15), .val (.int vv25), .unset] [(.int e0_), (.int lb)])) _
          refine XS.iload X25.here hx rfl (hb hby at_264) rfl ?_
          show Steps p.tables e below (T25.setTop (mkF m 266 #[.val (.long p1), .second, .val (.long p2), .second, .val (.int p3), .val (.int p4), .val (.int p5), .val (.long sb), .second, .val (.int la), .val (.int a0_), .val (.int a1_), .val (.int lb), .val (.int e0_), .val (.int e1_), .val (.ref wa1), .val (.ref wb1), .val (.ref b8), .val (.ref b11), .val (.int vv14), .val (.int vv15), .val (.int vv25), .unset] [(.int e1_), (.int e0_), (.int lb)])) _
          refine XS.iload X25.here hx rfl (hb hby at_266) rfl ?_
          show Steps p.tables e below (T25.setTop (mkF m 268 #[.val (.long p1), .second, .val (.long p2), .second, .val (.int p3), .val (.int p4), .val (.int p5), .val (.long sb), .second, .val (.int la), .val (.int a0_), .val (.int a1_), .val (.int lb), .val (.int e0_), .val (.int e1_), .val (.ref wa1), .val (.ref wb1), .val (.ref b8), .val (.ref b11), .val (.int vv14), .val (.int vv15), .val (.int vv25), .unset] [(.int la), (.int e1_), (.int e0_), (.int lb)])) _
          refine XS.iload X25.here hx rfl (hb hby at_268) rfl ?_
          show Steps p.tables e below (T25.setTop (mkF m 270 #[.val (.long p1), .second, .val (.long p2), .second, .val (.int p3), .val (.int p4), .val (.int p5), .val (.long sb), .second, .val (.int la), .val (.int a0_), .val (.int a1_), .val (.int lb), .val (.int e0_), .val (.int e1_), .val (.ref wa1), .val (.ref wb1), .val (.ref b8), .val (.ref b11), .val (.int vv14), .val (.int vv15), .val (.int vv25), .unset] [(.int a0_), (.int la), (.int e1_), (.int e0_), (.int lb)])) _
          refine XS.iload X25.here hx rfl (hb hby at_270) rfl ?_
          show Steps p.tables e below (T25.setTop (mkF m 272 #[.val (.long p1), .second, .val (.long p2), .second, .val (.int p3), .val (.int p4), .val (.int p5), .val (.long sb), .second, .val (.int la), .val (.int a0_), .val (.int a1_), .val (.int lb), .val (.int e0_), .val (.int e1_), .val (.ref wa1), .val (.ref wb1), .val (.ref b8), .val (.ref b11), .val (.int vv14), .val (.int vv15), .val (.int vv25), .unset] [(.int a1_), (.int a0_), (.int la), (.int e1_), (.int e0_), (.int lb)])) _
          exact k
        -- pc 272: com/example/lockline/lockline/ContenderIsAheadOfPinLaw.less
        obtain ⟨_, _, ⟨T26, L26, k26, n26⟩, -, X26, ⟨Lc26, hQ26, l26, y26, z26⟩, st26⟩ := Jvm.LawKit.callS X25 hx (y := (⟨"com/example/lockline/lockline/ContenderIsAheadOfPinLaw", "less", "(ICCICC)Z"⟩ : MethodName)) hown (mvT hZ (hw _ (List.mem_of_getElem? (i := 106) rfl))) (mvT hZ (hw _ (List.mem_of_getElem? (i := 107) rfl))) (mvT hZ (hw _ (List.mem_of_getElem? (i := 8) rfl))) (mvT hZ (hw _ (List.mem_of_getElem? (i := 108) rfl))) (by decide) (backOf (W := 0) (rmLess l Z a0 hw [] lb e0_ e1_ la a0_ a1_ T13.heap n0 O ) hZ (hw _ (List.mem_of_getElem? (i := 108) rfl)) (hw _ (List.mem_of_getElem? (i := 8) rfl)) (by decide) (by decide)) (g := (mkF m 272 #[.val (.long p1), .second, .val (.long p2), .second, .val (.int p3), .val (.int p4), .val (.int p5), .val (.long sb), .second, .val (.int la), .val (.int a0_), .val (.int a1_), .val (.int lb), .val (.int e0_), .val (.int e1_), .val (.ref wa1), .val (.ref wb1), .val (.ref b8), .val (.ref b11), .val (.int vv14), .val (.int vv15), .val (.int vv25), .unset] [(.int a1_), (.int a0_), (.int la), (.int e1_), (.int e0_), (.int lb)])) rfl (by rw [hml]; rfl) (argsL := [(.int lb), (.int e0_), (.int e1_), (.int la), (.int a0_), (.int a1_)]) (rest := []) (lenOf pd_17 rfl) rfl (by show 2 * 0 + _ ≤ _; exact Nat.le_of_eq rfl) (hb hby at_272) (fun _ hWm => ⟨rfl, Kq25, (by decide : 10 + 0 ≤ _), (by decide : 22 + 0 ≤ _)⟩)
        dsimp only [Pt.U, Pt.locs, Pt.cells, Pt.slots] at X26 l26 y26 z26 st26 hQ26
        subst l26 y26 z26
        obtain ⟨vv26, rfl, Nq26, Kq26, cq26_0, cq26_1⟩ := hQ26
        replace N := Fr.app N Nq26
        refine own_go (B := T26.setTop (mkF m 275 #[.val (.long p1), .second, .val (.long p2), .second, .val (.int p3), .val (.int p4), .val (.int p5), .val (.long sb), .second, .val (.int la), .val (.int a0_), .val (.int a1_), .val (.int lb), .val (.int e0_), .val (.int e1_), .val (.ref wa1), .val (.ref wb1), .val (.ref b8), .val (.ref b11), .val (.int vv14), .val (.int vv15), .val (.int vv25), .unset] [(.int vv26)])) st26 ?_
        refine own_go (B := T26.setTop (mkF m 296 #[.val (.long p1), .second, .val (.long p2), .second, .val (.int p3), .val (.int p4), .val (.int p5), .val (.long sb), .second, .val (.int la), .val (.int a0_), .val (.int a1_), .val (.int lb), .val (.int e0_), .val (.int e1_), .val (.ref wa1), .val (.ref wb1), .val (.ref b8), .val (.ref b11), .val (.int vv14), .val (.int vv15), .val (.int vv25), .val (.int vv26)] [(.int (1 : Int32))])) (fun t k => ?_) ?_
        · show Steps p.tables e below (T26.setTop (mkF m 275 #[.val (.long p1), .second, .val (.long p2), .second, .val (.int p3), .val (.int p4), .val (.int p5), .val (.long sb), .second, .val (.int la), .val (.int a0_), .val (.int a1_), .val (.int lb), .val (.int e0_), .val (.int e1_), .val (.ref wa1), .val (.ref wb1), .val (.ref b8), .val (.ref b11), .val (.int vv14), .val (.int vv15), .val (.int vv25), .unset] [(.int vv26)])) _
          refine XS.istore X26.here hx rfl (hb hby at_275) rfl (l' := #[.val (.long p1), .second, .val (.long p2), .second, .val (.int p3), .val (.int p4), .val (.int p5), .val (.long sb), .second, .val (.int la), .val (.int a0_), .val (.int a1_), .val (.int lb), .val (.int e0_), .val (.int e1_), .val (.ref wa1), .val (.ref wb1), .val (.ref b8), .val (.ref b11), .val (.int vv14), .val (.int vv15), .val (.int vv25), .val (.int vv26)]) rfl ?_
          show Steps p.tables e below (T26.setTop (mkF m 277 #[.val (.long p1), .second, .val (.long p2), .second, .val (.int p3), .val (.int p4), .val (.int p5), .val (.long sb), .second, .val (.int la), .val (.int a0_), .val (.int a1_), .val (.int lb), .val (.int e0_), .val (.int e1_), .val (.ref wa1), .val (.ref wb1), .val (.ref b8), .val (.ref b11), .val (.int vv14), .val (.int vv15), .val (.int vv25), .val (.int vv26)] [])) _
          refine XS.iload X26.here hx rfl (hb hby at_277) rfl ?_
          show Steps p.tables e below (T26.setTop (mkF m 279 #[.val (.long p1), .second, .val (.long p2), .second, .val (.int p3), .val (.int p4), .val (.int p5), .val (.long sb), .second, .val (.int la), .val (.int a0_), .val (.int a1_), .val (.int lb), .val (.int e0_), .val (.int e1_), .val (.ref wa1), .val (.ref wb1), .val (.ref b8), .val (.ref b11), .val (.int vv14), .val (.int vv15), .val (.int vv25), .val (.int vv26)] [(.int vv14)])) _
          refine XS.iload X26.here hx rfl (hb hby at_279) rfl ?_
          show Steps p.tables e below (T26.setTop (mkF m 281 #[.val (.long p1), .second, .val (.long p2), .second, .val (.int p3), .val (.int p4), .val (.int p5), .val (.long sb), .second, .val (.int la), .val (.int a0_), .val (.int a1_), .val (.int lb), .val (.int e0_), .val (.int e1_), .val (.ref wa1), .val (.ref wb1), .val (.ref b8), .val (.ref b11), .val (.int vv14), .val (.int vv15), .val (.int vv25), .val (.int vv26)] [(.int vv25), (.int vv14)])) _
          refine XS.icmpNo X26.here hx rfl (hb hby at_281) rfl (teq ((cq14_1 (fun z => z.elim (fun z => z.1 se) (fun z => f1 (hA.mp z.2)))).trans (cq25_1 f1).symm)).2 ?_
          show Steps p.tables e below (T26.setTop (mkF m 284 #[.val (.long p1), .second, .val (.long p2), .second, .val (.int p3), .val (.int p4), .val (.int p5), .val (.long sb), .second, .val (.int la), .val (.int a0_), .val (.int a1_), .val (.int lb), .val (.int e0_), .val (.int e1_), .val (.ref wa1), .val (.ref wb1), .val (.ref b8), .val (.ref b11), .val (.int vv14), .val (.int vv15), .val (.int vv25), .val (.int vv26)] [])) _
          refine XS.iload X26.here hx rfl (hb hby at_284) rfl ?_
          show Steps p.tables e below (T26.setTop (mkF m 286 #[.val (.long p1), .second, .val (.long p2), .second, .val (.int p3), .val (.int p4), .val (.int p5), .val (.long sb), .second, .val (.int la), .val (.int a0_), .val (.int a1_), .val (.int lb), .val (.int e0_), .val (.int e1_), .val (.ref wa1), .val (.ref wb1), .val (.ref b8), .val (.ref b11), .val (.int vv14), .val (.int vv15), .val (.int vv25), .val (.int vv26)] [(.int vv15)])) _
          refine XS.iload X26.here hx rfl (hb hby at_286) rfl ?_
          show Steps p.tables e below (T26.setTop (mkF m 288 #[.val (.long p1), .second, .val (.long p2), .second, .val (.int p3), .val (.int p4), .val (.int p5), .val (.long sb), .second, .val (.int la), .val (.int a0_), .val (.int a1_), .val (.int lb), .val (.int e0_), .val (.int e1_), .val (.ref wa1), .val (.ref wb1), .val (.ref b8), .val (.ref b11), .val (.int vv14), .val (.int vv15), .val (.int vv25), .val (.int vv26)] [(.int vv26), (.int vv15)])) _
          refine XS.icmpNo X26.here hx rfl (hb hby at_288) rfl (teq ((cq15_1 (fun z => z.elim (fun z => z.1 se.symm) (fun z => f2 (hB.mp z.2)))).trans (cq26_1 f2).symm)).2 ?_
          show Steps p.tables e below (T26.setTop (mkF m 291 #[.val (.long p1), .second, .val (.long p2), .second, .val (.int p3), .val (.int p4), .val (.int p5), .val (.long sb), .second, .val (.int la), .val (.int a0_), .val (.int a1_), .val (.int lb), .val (.int e0_), .val (.int e1_), .val (.ref wa1), .val (.ref wb1), .val (.ref b8), .val (.ref b11), .val (.int vv14), .val (.int vv15), .val (.int vv25), .val (.int vv26)] [])) _
          refine XS.iconst X26.here hx rfl (hb hby at_291) ?_
          show Steps p.tables e below (T26.setTop (mkF m 292 #[.val (.long p1), .second, .val (.long p2), .second, .val (.int p3), .val (.int p4), .val (.int p5), .val (.long sb), .second, .val (.int la), .val (.int a0_), .val (.int a1_), .val (.int lb), .val (.int e0_), .val (.int e1_), .val (.ref wa1), .val (.ref wb1), .val (.ref b8), .val (.ref b11), .val (.int vv14), .val (.int vv15), .val (.int vv25), .val (.int vv26)] [(.int (1 : Int32))])) _
          refine XS.goto X26.here hx rfl (pc0 := 292) (pc' := 296) rfl (hb hby at_292) (by decide) (by decide) ?_
          show Steps p.tables e below (T26.setTop (mkF m 296 #[.val (.long p1), .second, .val (.long p2), .second, .val (.int p3), .val (.int p4), .val (.int p5), .val (.long sb), .second, .val (.int la), .val (.int a0_), .val (.int a1_), .val (.int lb), .val (.int e0_), .val (.int e1_), .val (.ref wa1), .val (.ref wb1), .val (.ref b8), .val (.ref b11), .val (.int vv14), .val (.int vv15), .val (.int vv25), .val (.int vv26)] [(.int (1 : Int32))])) _
          exact k
        obtain ⟨fs, hr, hrun, hended, hEnd⟩ := X26.leaveW hS (by rw [Kq26]; exact hk) (v := some (.int (1 : Int32))) (fun h => by rw [Bd.returns] at h; cases h)
        refine ⟨_, _, retN X26 hx (t := .boolean) Bd.returns (by simp) (hb hby at_296) hr, hfin _ _ ⟨hrun, hended, _, _, rfl, ?_, hEnd.1, hEnd.2.1, hEnd.2.2.1, hEnd.2.2.2.mono (by decide) (by decide)⟩⟩
        show Q0 Z p1 p2 p3 p4 p5 wR wW zc h0 n0 _ T26.heap _
        rw [Kq26]
        exact ⟨rfl, N⟩
  · by_cases s1 : p1 < sb
    · by_cases s2 : sb < p1
      · refine own_go (B := T15.setTop (mkF m 296 #[.val (.long p1), .second, .val (.long p2), .second, .val (.int p3), .val (.int p4), .val (.int p5), .val (.long sb), .second, .val (.int la), .val (.int a0_), .val (.int a1_), .val (.int lb), .val (.int e0_), .val (.int e1_), .val (.ref wa1), .val (.ref wb1), .val (.ref b8), .val (.ref b11), .val (.int vv14), .val (.int vv15), .val (.int (1 : Int32)), .val (.int (1 : Int32))] [(.int (1 : Int32))])) (fun t k => ?_) ?_
        · show Steps p.tables e below (T15.setTop (mkF m 199 #[.val (.long p1), .second, .val (.long p2), .second, .val (.int p3), .val (.int p4), .val (.int p5), .val (.long sb), .second, .val (.int la), .val (.int a0_), .val (.int a1_), .val (.int lb), .val (.int e0_), .val (.int e1_), .val (.ref wa1), .val (.ref wb1), .val (.ref b8), .val (.ref b11), .val (.int vv14), .val (.int vv15), .unset, .unset] [])) _
          refine XS.lloadN X15.here hx rfl (hb hby at_199) rfl ?_
          show Steps p.tables e below (T15.setTop (mkF m 200 #[.val (.long p1), .second, .val (.long p2), .second, .val (.int p3), .val (.int p4), .val (.int p5), .val (.long sb), .second, .val (.int la), .val (.int a0_), .val (.int a1_), .val (.int lb), .val (.int e0_), .val (.int e1_), .val (.ref wa1), .val (.ref wb1), .val (.ref b8), .val (.ref b11), .val (.int vv14), .val (.int vv15), .unset, .unset] [(.long p1)])) _
          refine XS.lload X15.here hx rfl (hb hby at_200) rfl ?_
          show Steps p.tables e below (T15.setTop (mkF m 202 #[.val (.long p1), .second, .val (.long p2), .second, .val (.int p3), .val (.int p4), .val (.int p5), .val (.long sb), .second, .val (.int la), .val (.int a0_), .val (.int a1_), .val (.int lb), .val (.int e0_), .val (.int e1_), .val (.ref wa1), .val (.ref wb1), .val (.ref b8), .val (.ref b11), .val (.int vv14), .val (.int vv15), .unset, .unset] [(.long sb), (.long p1)])) _
          refine XS.lcmp X15.here hx rfl (hb hby at_202) rfl ?_
          show Steps p.tables e below (T15.setTop (mkF m 203 #[.val (.long p1), .second, .val (.long p2), .second, .val (.int p3), .val (.int p4), .val (.int p5), .val (.long sb), .second, .val (.int la), .val (.int a0_), .val (.int a1_), .val (.int lb), .val (.int e0_), .val (.int e1_), .val (.ref wa1), .val (.ref wb1), .val (.ref b8), .val (.ref b11), .val (.int vv14), .val (.int vv15), .unset, .unset] [(.int (lcmpW p1 sb))])) _
          refine XS.ifNo X15.here hx rfl (hb hby at_203) rfl (XT.ll_eq_f se) ?_
          show Steps p.tables e below (T15.setTop (mkF m 206 #[.val (.long p1), .second, .val (.long p2), .second, .val (.int p3), .val (.int p4), .val (.int p5), .val (.long sb), .second, .val (.int la), .val (.int a0_), .val (.int a1_), .val (.int lb), .val (.int e0_), .val (.int e1_), .val (.ref wa1), .val (.ref wb1), .val (.ref b8), .val (.ref b11), .val (.int vv14), .val (.int vv15), .unset, .unset] [])) _
          refine XS.lloadN X15.here hx rfl (hb hby at_206) rfl ?_
          show Steps p.tables e below (T15.setTop (mkF m 207 #[.val (.long p1), .second, .val (.long p2), .second, .val (.int p3), .val (.int p4), .val (.int p5), .val (.long sb), .second, .val (.int la), .val (.int a0_), .val (.int a1_), .val (.int lb), .val (.int e0_), .val (.int e1_), .val (.ref wa1), .val (.ref wb1), .val (.ref b8), .val (.ref b11), .val (.int vv14), .val (.int vv15), .unset, .unset] [(.long p1)])) _
          refine XS.lload X15.here hx rfl (hb hby at_207) rfl ?_
          show Steps p.tables e below (T15.setTop (mkF m 209 #[.val (.long p1), .second, .val (.long p2), .second, .val (.int p3), .val (.int p4), .val (.int p5), .val (.long sb), .second, .val (.int la), .val (.int a0_), .val (.int a1_), .val (.int lb), .val (.int e0_), .val (.int e1_), .val (.ref wa1), .val (.ref wb1), .val (.ref b8), .val (.ref b11), .val (.int vv14), .val (.int vv15), .unset, .unset] [(.long sb), (.long p1)])) _
          refine XS.lcmp X15.here hx rfl (hb hby at_209) rfl ?_
          show Steps p.tables e below (T15.setTop (mkF m 210 #[.val (.long p1), .second, .val (.long p2), .second, .val (.int p3), .val (.int p4), .val (.int p5), .val (.long sb), .second, .val (.int la), .val (.int a0_), .val (.int a1_), .val (.int lb), .val (.int e0_), .val (.int e1_), .val (.ref wa1), .val (.ref wb1), .val (.ref b8), .val (.ref b11), .val (.int vv14), .val (.int vv15), .unset, .unset] [(.int (lcmpW p1 sb))])) _
          refine XS.ifNo X15.here hx rfl (hb hby at_210) rfl (XT.ll_ge_f s1) ?_
          show Steps p.tables e below (T15.setTop (mkF m 213 #[.val (.long p1), .second, .val (.long p2), .second, .val (.int p3), .val (.int p4), .val (.int p5), .val (.long sb), .second, .val (.int la), .val (.int a0_), .val (.int a1_), .val (.int lb), .val (.int e0_), .val (.int e1_), .val (.ref wa1), .val (.ref wb1), .val (.ref b8), .val (.ref b11), .val (.int vv14), .val (.int vv15), .unset, .unset] [])) _
          refine XS.iconst X15.here hx rfl (hb hby at_213) ?_
          show Steps p.tables e below (T15.setTop (mkF m 214 #[.val (.long p1), .second, .val (.long p2), .second, .val (.int p3), .val (.int p4), .val (.int p5), .val (.long sb), .second, .val (.int la), .val (.int a0_), .val (.int a1_), .val (.int lb), .val (.int e0_), .val (.int e1_), .val (.ref wa1), .val (.ref wb1), .val (.ref b8), .val (.ref b11), .val (.int vv14), .val (.int vv15), .unset, .unset] [(.int (1 : Int32))])) _
          refine XS.goto X15.here hx rfl (pc0 := 214) (pc' := 236) rfl (hb hby at_214) (by decide) (by decide) ?_
          show Steps p.tables e below (T15.setTop (mkF m 236 #[.val (.long p1), .second, .val (.long p2), .second, .val (.int p3), .val (.int p4), .val (.int p5), .val (.long sb), .second, .val (.int la), .val (.int a0_), .val (.int a1_), .val (.int lb), .val (.int e0_), .val (.int e1_), .val (.ref wa1), .val (.ref wb1), .val (.ref b8), .val (.ref b11), .val (.int vv14), .val (.int vv15), .unset, .unset] [(.int (1 : Int32))])) _
          refine XS.istore X15.here hx rfl (hb hby at_236) rfl (l' := #[.val (.long p1), .second, .val (.long p2), .second, .val (.int p3), .val (.int p4), .val (.int p5), .val (.long sb), .second, .val (.int la), .val (.int a0_), .val (.int a1_), .val (.int lb), .val (.int e0_), .val (.int e1_), .val (.ref wa1), .val (.ref wb1), .val (.ref b8), .val (.ref b11), .val (.int vv14), .val (.int vv15), .val (.int (1 : Int32)), .unset]) rfl ?_
          show Steps p.tables e below (T15.setTop (mkF m 238 #[.val (.long p1), .second, .val (.long p2), .second, .val (.int p3), .val (.int p4), .val (.int p5), .val (.long sb), .second, .val (.int la), .val (.int a0_), .val (.int a1_), .val (.int lb), .val (.int e0_), .val (.int e1_), .val (.ref wa1), .val (.ref wb1), .val (.ref b8), .val (.ref b11), .val (.int vv14), .val (.int vv15), .val (.int (1 : Int32)), .unset] [])) _
          refine XS.lloadN X15.here hx rfl (hb hby at_238) rfl ?_
          show Steps p.tables e below (T15.setTop (mkF m 239 #[.val (.long p1), .second, .val (.long p2), .second, .val (.int p3), .val (.int p4), .val (.int p5), .val (.long sb), .second, .val (.int la), .val (.int a0_), .val (.int a1_), .val (.int lb), .val (.int e0_), .val (.int e1_), .val (.ref wa1), .val (.ref wb1), .val (.ref b8), .val (.ref b11), .val (.int vv14), .val (.int vv15), .val (.int (1 : Int32)), .unset] [(.long p1)])) _
          refine XS.lload X15.here hx rfl (hb hby at_239) rfl ?_
          show Steps p.tables e below (T15.setTop (mkF m 241 #[.val (.long p1), .second, .val (.long p2), .second, .val (.int p3), .val (.int p4), .val (.int p5), .val (.long sb), .second, .val (.int la), .val (.int a0_), .val (.int a1_), .val (.int lb), .val (.int e0_), .val (.int e1_), .val (.ref wa1), .val (.ref wb1), .val (.ref b8), .val (.ref b11), .val (.int vv14), .val (.int vv15), .val (.int (1 : Int32)), .unset] [(.long sb), (.long p1)])) _
          refine XS.lcmp X15.here hx rfl (hb hby at_241) rfl ?_
          show Steps p.tables e below (T15.setTop (mkF m 242 #[.val (.long p1), .second, .val (.long p2), .second, .val (.int p3), .val (.int p4), .val (.int p5), .val (.long sb), .second, .val (.int la), .val (.int a0_), .val (.int a1_), .val (.int lb), .val (.int e0_), .val (.int e1_), .val (.ref wa1), .val (.ref wb1), .val (.ref b8), .val (.ref b11), .val (.int vv14), .val (.int vv15), .val (.int (1 : Int32)), .unset] [(.int (lcmpW p1 sb))])) _
          refine XS.ifNo X15.here hx rfl (hb hby at_242) rfl (XT.ll_eq_f se) ?_
          show Steps p.tables e below (T15.setTop (mkF m 245 #[.val (.long p1), .second, .val (.long p2), .second, .val (.int p3), .val (.int p4), .val (.int p5), .val (.long sb), .second, .val (.int la), .val (.int a0_), .val (.int a1_), .val (.int lb), .val (.int e0_), .val (.int e1_), .val (.ref wa1), .val (.ref wb1), .val (.ref b8), .val (.ref b11), .val (.int vv14), .val (.int vv15), .val (.int (1 : Int32)), .unset] [])) _
          refine XS.lload X15.here hx rfl (hb hby at_245) rfl ?_
          show Steps p.tables e below (T15.setTop (mkF m 247 #[.val (.long p1), .second, .val (.long p2), .second, .val (.int p3), .val (.int p4), .val (.int p5), .val (.long sb), .second, .val (.int la), .val (.int a0_), .val (.int a1_), .val (.int lb), .val (.int e0_), .val (.int e1_), .val (.ref wa1), .val (.ref wb1), .val (.ref b8), .val (.ref b11), .val (.int vv14), .val (.int vv15), .val (.int (1 : Int32)), .unset] [(.long sb)])) _
          refine XS.lloadN X15.here hx rfl (hb hby at_247) rfl ?_
          show Steps p.tables e below (T15.setTop (mkF m 248 #[.val (.long p1), .second, .val (.long p2), .second, .val (.int p3), .val (.int p4), .val (.int p5), .val (.long sb), .second, .val (.int la), .val (.int a0_), .val (.int a1_), .val (.int lb), .val (.int e0_), .val (.int e1_), .val (.ref wa1), .val (.ref wb1), .val (.ref b8), .val (.ref b11), .val (.int vv14), .val (.int vv15), .val (.int (1 : Int32)), .unset] [(.long p1), (.long sb)])) _
          refine XS.lcmp X15.here hx rfl (hb hby at_248) rfl ?_
          show Steps p.tables e below (T15.setTop (mkF m 249 #[.val (.long p1), .second, .val (.long p2), .second, .val (.int p3), .val (.int p4), .val (.int p5), .val (.long sb), .second, .val (.int la), .val (.int a0_), .val (.int a1_), .val (.int lb), .val (.int e0_), .val (.int e1_), .val (.ref wa1), .val (.ref wb1), .val (.ref b8), .val (.ref b11), .val (.int vv14), .val (.int vv15), .val (.int (1 : Int32)), .unset] [(.int (lcmpW sb p1))])) _
          refine XS.ifNo X15.here hx rfl (hb hby at_249) rfl (XT.ll_ge_f s2) ?_
          show Steps p.tables e below (T15.setTop (mkF m 252 #[.val (.long p1), .second, .val (.long p2), .second, .val (.int p3), .val (.int p4), .val (.int p5), .val (.long sb), .second, .val (.int la), .val (.int a0_), .val (.int a1_), .val (.int lb), .val (.int e0_), .val (.int e1_), .val (.ref wa1), .val (.ref wb1), .val (.ref b8), .val (.ref b11), .val (.int vv14), .val (.int vv15), .val (.int (1 : Int32)), .unset] [])) _
          refine XS.iconst X15.here hx rfl (hb hby at_252) ?_
          show Steps p.tables e below (T15.setTop (mkF m 253 #[.val (.long p1), .second, .val (.long p2), .second, .val (.int p3), .val (.int p4), .val (.int p5), .val (.long sb), .second, .val (.int la), .val (.int a0_), .val (.int a1_), .val (.int lb), .val (.int e0_), .val (.int e1_), .val (.ref wa1), .val (.ref wb1), .val (.ref b8), .val (.ref b11), .val (.int vv14), .val (.int vv15), .val (.int (1 : Int32)), .unset] [(.int (1 : Int32))])) _
          refine XS.goto X15.here hx rfl (pc0 := 253) (pc' := 275) rfl (hb hby at_253) (by decide) (by decide) ?_
          show Steps p.tables e below (T15.setTop (mkF m 275 #[.val (.long p1), .second, .val (.long p2), .second, .val (.int p3), .val (.int p4), .val (.int p5), .val (.long sb), .second, .val (.int la), .val (.int a0_), .val (.int a1_), .val (.int lb), .val (.int e0_), .val (.int e1_), .val (.ref wa1), .val (.ref wb1), .val (.ref b8), .val (.ref b11), .val (.int vv14), .val (.int vv15), .val (.int (1 : Int32)), .unset] [(.int (1 : Int32))])) _
          refine XS.istore X15.here hx rfl (hb hby at_275) rfl (l' := #[.val (.long p1), .second, .val (.long p2), .second, .val (.int p3), .val (.int p4), .val (.int p5), .val (.long sb), .second, .val (.int la), .val (.int a0_), .val (.int a1_), .val (.int lb), .val (.int e0_), .val (.int e1_), .val (.ref wa1), .val (.ref wb1), .val (.ref b8), .val (.ref b11), .val (.int vv14), .val (.int vv15), .val (.int (1 : Int32)), .val (.int (1 : Int32))]) rfl ?_
          show Steps p.tables e below (T15.setTop (mkF m 277 #[.val (.long p1), .second, .val (.long p2), .second, .val (.int p3), .val (.int p4), .val (.int p5), .val (.long sb), .second, .val (.int la), .val (.int a0_), .val (.int a1_), .val (.int lb), .val (.int e0_), .val (.int e1_), .val (.ref wa1), .val (.ref wb1), .val (.ref b8), .val (.ref b11), .val (.int vv14), .val (.int vv15), .val (.int (1 : Int32)), .val (.int (1 : Int32))] [])) _
          refine XS.iload X15.here hx rfl (hb hby at_277) rfl ?_
          show Steps p.tables e below (T15.setTop (mkF m 279 #[.val (.long p1), .second, .val (.long p2), .second, .val (.int p3), .val (.int p4), .val (.int p5), .val (.long sb), .second, .val (.int la), .val (.int a0_), .val (.int a1_), .val (.int lb), .val (.int e0_), .val (.int e1_), .val (.ref wa1), .val (.ref wb1), .val (.ref b8), .val (.ref b11), .val (.int vv14), .val (.int vv15), .val (.int (1 : Int32)), .val (.int (1 : Int32))] [(.int vv14)])) _
          refine XS.iload X15.here hx rfl (hb hby at_279) rfl ?_
          show Steps p.tables e below (T15.setTop (mkF m 281 #[.val (.long p1), .second, .val (.long p2), .second, .val (.int p3), .val (.int p4), .val (.int p5), .val (.long sb), .second, .val (.int la), .val (.int a0_), .val (.int a1_), .val (.int lb), .val (.int e0_), .val (.int e1_), .val (.ref wa1), .val (.ref wb1), .val (.ref b8), .val (.ref b11), .val (.int vv14), .val (.int vv15), .val (.int (1 : Int32)), .val (.int (1 : Int32))] [(.int (1 : Int32)), (.int vv14)])) _
          refine XS.icmpNo X15.here hx rfl (hb hby at_281) rfl (teq (cq14_0 (Or.inl ⟨se, s1⟩))).2 ?_
          show Steps p.tables e below (T15.setTop (mkF m 284 #[.val (.long p1), .second, .val (.long p2), .second, .val (.int p3), .val (.int p4), .val (.int p5), .val (.long sb), .second, .val (.int la), .val (.int a0_), .val (.int a1_), .val (.int lb), .val (.int e0_), .val (.int e1_), .val (.ref wa1), .val (.ref wb1), .val (.ref b8), .val (.ref b11), .val (.int vv14), .val (.int vv15), .val (.int (1 : Int32)), .val (.int (1 : Int32))] [])) _
          refine XS.iload X15.here hx rfl (hb hby at_284) rfl ?_
          show Steps p.tables e below (T15.setTop (mkF m 286 #[.val (.long p1), .second, .val (.long p2), .second, .val (.int p3), .val (.int p4), .val (.int p5), .val (.long sb), .second, .val (.int la), .val (.int a0_), .val (.int a1_), .val (.int lb), .val (.int e0_), .val (.int e1_), .val (.ref wa1), .val (.ref wb1), .val (.ref b8), .val (.ref b11), .val (.int vv14), .val (.int vv15), .val (.int (1 : Int32)), .val (.int (1 : Int32))] [(.int vv15)])) _
          refine XS.iload X15.here hx rfl (hb hby at_286) rfl ?_
          show Steps p.tables e below (T15.setTop (mkF m 288 #[.val (.long p1), .second, .val (.long p2), .second, .val (.int p3), .val (.int p4), .val (.int p5), .val (.long sb), .second, .val (.int la), .val (.int a0_), .val (.int a1_), .val (.int lb), .val (.int e0_), .val (.int e1_), .val (.ref wa1), .val (.ref wb1), .val (.ref b8), .val (.ref b11), .val (.int vv14), .val (.int vv15), .val (.int (1 : Int32)), .val (.int (1 : Int32))] [(.int (1 : Int32)), (.int vv15)])) _
          refine XS.icmpNo X15.here hx rfl (hb hby at_288) rfl (teq (cq15_0 (Or.inl ⟨(fun z => se z.symm), s2⟩))).2 ?_
          show Steps p.tables e below (T15.setTop (mkF m 291 #[.val (.long p1), .second, .val (.long p2), .second, .val (.int p3), .val (.int p4), .val (.int p5), .val (.long sb), .second, .val (.int la), .val (.int a0_), .val (.int a1_), .val (.int lb), .val (.int e0_), .val (.int e1_), .val (.ref wa1), .val (.ref wb1), .val (.ref b8), .val (.ref b11), .val (.int vv14), .val (.int vv15), .val (.int (1 : Int32)), .val (.int (1 : Int32))] [])) _
          refine XS.iconst X15.here hx rfl (hb hby at_291) ?_
          show Steps p.tables e below (T15.setTop (mkF m 292 #[.val (.long p1), .second, .val (.long p2), .second, .val (.int p3), .val (.int p4), .val (.int p5), .val (.long sb), .second, .val (.int la), .val (.int a0_), .val (.int a1_), .val (.int lb), .val (.int e0_), .val (.int e1_), .val (.ref wa1), .val (.ref wb1), .val (.ref b8), .val (.ref b11), .val (.int vv14), .val (.int vv15), .val (.int (1 : Int32)), .val (.int (1 : Int32))] [(.int (1 : Int32))])) _
          refine XS.goto X15.here hx rfl (pc0 := 292) (pc' := 296) rfl (hb hby at_292) (by decide) (by decide) ?_
          show Steps p.tables e below (T15.setTop (mkF m 296 #[.val (.long p1), .second, .val (.long p2), .second, .val (.int p3), .val (.int p4), .val (.int p5), .val (.long sb), .second, .val (.int la), .val (.int a0_), .val (.int a1_), .val (.int lb), .val (.int e0_), .val (.int e1_), .val (.ref wa1), .val (.ref wb1), .val (.ref b8), .val (.ref b11), .val (.int vv14), .val (.int vv15), .val (.int (1 : Int32)), .val (.int (1 : Int32))] [(.int (1 : Int32))])) _
          exact k
        obtain ⟨fs, hr, hrun, hended, hEnd⟩ := X15.leaveW hS (by rw [Kq15]; exact hk) (v := some (.int (1 : Int32))) (fun h => by rw [Bd.returns] at h; cases h)
        refine ⟨_, _, retN X15 hx (t := .boolean) Bd.returns (by simp) (hb hby at_296) hr, hfin _ _ ⟨hrun, hended, _, _, rfl, ?_, hEnd.1, hEnd.2.1, hEnd.2.2.1, hEnd.2.2.2.mono (by decide) (by decide)⟩⟩
        show Q0 Z p1 p2 p3 p4 p5 wR wW zc h0 n0 _ T15.heap _
        rw [Kq15]
        exact ⟨rfl, N⟩
      · refine own_go (B := T15.setTop (mkF m 296 #[.val (.long p1), .second, .val (.long p2), .second, .val (.int p3), .val (.int p4), .val (.int p5), .val (.long sb), .second, .val (.int la), .val (.int a0_), .val (.int a1_), .val (.int lb), .val (.int e0_), .val (.int e1_), .val (.ref wa1), .val (.ref wb1), .val (.ref b8), .val (.ref b11), .val (.int vv14), .val (.int vv15), .val (.int (1 : Int32)), .val (.int (0 : Int32))] [(.int (1 : Int32))])) (fun t k => ?_) ?_
        · show Steps p.tables e below (T15.setTop (mkF m 199 #[.val (.long p1), .second, .val (.long p2), .second, .val (.int p3), .val (.int p4), .val (.int p5), .val (.long sb), .second, .val (.int la), .val (.int a0_), .val (.int a1_), .val (.int lb), .val (.int e0_), .val (.int e1_), .val (.ref wa1), .val (.ref wb1), .val (.ref b8), .val (.ref b11), .val (.int vv14), .val (.int vv15), .unset, .unset] [])) _
          refine XS.lloadN X15.here hx rfl (hb hby at_199) rfl ?_
          show Steps p.tables e below (T15.setTop (mkF m 200 #[.val (.long p1), .second, .val (.long p2), .second, .val (.int p3), .val (.int p4), .val (.int p5), .val (.long sb), .second, .val (.int la), .val (.int a0_), .val (.int a1_), .val (.int lb), .val (.int e0_), .val (.int e1_), .val (.ref wa1), .val (.ref wb1), .val (.ref b8), .val (.ref b11), .val (.int vv14), .val (.int vv15), .unset, .unset] [(.long p1)])) _
          refine XS.lload X15.here hx rfl (hb hby at_200) rfl ?_
          show Steps p.tables e below (T15.setTop (mkF m 202 #[.val (.long p1), .second, .val (.long p2), .second, .val (.int p3), .val (.int p4), .val (.int p5), .val (.long sb), .second, .val (.int la), .val (.int a0_), .val (.int a1_), .val (.int lb), .val (.int e0_), .val (.int e1_), .val (.ref wa1), .val (.ref wb1), .val (.ref b8), .val (.ref b11), .val (.int vv14), .val (.int vv15), .unset, .unset] [(.long sb), (.long p1)])) _
          refine XS.lcmp X15.here hx rfl (hb hby at_202) rfl ?_
          show Steps p.tables e below (T15.setTop (mkF m 203 #[.val (.long p1), .second, .val (.long p2), .second, .val (.int p3), .val (.int p4), .val (.int p5), .val (.long sb), .second, .val (.int la), .val (.int a0_), .val (.int a1_), .val (.int lb), .val (.int e0_), .val (.int e1_), .val (.ref wa1), .val (.ref wb1), .val (.ref b8), .val (.ref b11), .val (.int vv14), .val (.int vv15), .unset, .unset] [(.int (lcmpW p1 sb))])) _
          refine XS.ifNo X15.here hx rfl (hb hby at_203) rfl (XT.ll_eq_f se) ?_
          show Steps p.tables e below (T15.setTop (mkF m 206 #[.val (.long p1), .second, .val (.long p2), .second, .val (.int p3), .val (.int p4), .val (.int p5), .val (.long sb), .second, .val (.int la), .val (.int a0_), .val (.int a1_), .val (.int lb), .val (.int e0_), .val (.int e1_), .val (.ref wa1), .val (.ref wb1), .val (.ref b8), .val (.ref b11), .val (.int vv14), .val (.int vv15), .unset, .unset] [])) _
          refine XS.lloadN X15.here hx rfl (hb hby at_206) rfl ?_
          show Steps p.tables e below (T15.setTop (mkF m 207 #[.val (.long p1), .second, .val (.long p2), .second, .val (.int p3), .val (.int p4), .val (.int p5), .val (.long sb), .second, .val (.int la), .val (.int a0_), .val (.int a1_), .val (.int lb), .val (.int e0_), .val (.int e1_), .val (.ref wa1), .val (.ref wb1), .val (.ref b8), .val (.ref b11), .val (.int vv14), .val (.int vv15), .unset, .unset] [(.long p1)])) _
          refine XS.lload X15.here hx rfl (hb hby at_207) rfl ?_
          show Steps p.tables e below (T15.setTop (mkF m 209 #[.val (.long p1), .second, .val (.long p2), .second, .val (.int p3), .val (.int p4), .val (.int p5), .val (.long sb), .second, .val (.int la), .val (.int a0_), .val (.int a1_), .val (.int lb), .val (.int e0_), .val (.int e1_), .val (.ref wa1), .val (.ref wb1), .val (.ref b8), .val (.ref b11), .val (.int vv14), .val (.int vv15), .unset, .unset] [(.long sb), (.long p1)])) _
          refine XS.lcmp X15.here hx rfl (hb hby at_209) rfl ?_
          show Steps p.tables e below (T15.setTop (mkF m 210 #[.val (.long p1), .second, .val (.long p2), .second, .val (.int p3), .val (.int p4), .val (.int p5), .val (.long sb), .second, .val (.int la), .val (.int a0_), .val (.int a1_), .val (.int lb), .val (.int e0_), .val (.int e1_), .val (.ref wa1), .val (.ref wb1), .val (.ref b8), .val (.ref b11), .val (.int vv14), .val (.int vv15), .unset, .unset] [(.int (lcmpW p1 sb))])) _
          refine XS.ifNo X15.here hx rfl (hb hby at_210) rfl (XT.ll_ge_f s1) ?_
          show Steps p.tables e below (T15.setTop (mkF m 213 #[.val (.long p1), .second, .val (.long p2), .second, .val (.int p3), .val (.int p4), .val (.int p5), .val (.long sb), .second, .val (.int la), .val (.int a0_), .val (.int a1_), .val (.int lb), .val (.int e0_), .val (.int e1_), .val (.ref wa1), .val (.ref wb1), .val (.ref b8), .val (.ref b11), .val (.int vv14), .val (.int vv15), .unset, .unset] [])) _
          refine XS.iconst X15.here hx rfl (hb hby at_213) ?_
          show Steps p.tables e below (T15.setTop (mkF m 214 #[.val (.long p1), .second, .val (.long p2), .second, .val (.int p3), .val (.int p4), .val (.int p5), .val (.long sb), .second, .val (.int la), .val (.int a0_), .val (.int a1_), .val (.int lb), .val (.int e0_), .val (.int e1_), .val (.ref wa1), .val (.ref wb1), .val (.ref b8), .val (.ref b11), .val (.int vv14), .val (.int vv15), .unset, .unset] [(.int (1 : Int32))])) _
          refine XS.goto X15.here hx rfl (pc0 := 214) (pc' := 236) rfl (hb hby at_214) (by decide) (by decide) ?_
          show Steps p.tables e below (T15.setTop (mkF m 236 #[.val (.long p1), .second, .val (.long p2), .second, .val (.int p3), .val (.int p4), .val (.int p5), .val (.long sb), .second, .val (.int la), .val (.int a0_), .val (.int a1_), .val (.int lb), .val (.int e0_), .val (.int e1_), .val (.ref wa1), .val (.ref wb1), .val (.ref b8), .val (.ref b11), .val (.int vv14), .val (.int vv15), .unset, .unset] [(.int (1 : Int32))])) _
          refine XS.istore X15.here hx rfl (hb hby at_236) rfl (l' := #[.val (.long p1), .second, .val (.long p2), .second, .val (.int p3), .val (.int p4), .val (.int p5), .val (.long sb), .second, .val (.int la), .val (.int a0_), .val (.int a1_), .val (.int lb), .val (.int e0_), .val (.int e1_), .val (.ref wa1), .val (.ref wb1), .val (.ref b8), .val (.ref b11), .val (.int vv14), .val (.int vv15), .val (.int (1 : Int32)), .unset]) rfl ?_
          show Steps p.tables e below (T15.setTop (mkF m 238 #[.val (.long p1), .second, .val (.long p2), .second, .val (.int p3), .val (.int p4), .val (.int p5), .val (.long sb), .second, .val (.int la), .val (.int a0_), .val (.int a1_), .val (.int lb), .val (.int e0_), .val (.int e1_), .val (.ref wa1), .val (.ref wb1), .val (.ref b8), .val (.ref b11), .val (.int vv14), .val (.int vv15), .val (.int (1 : Int32)), .unset] [])) _
          refine XS.lloadN X15.here hx rfl (hb hby at_238) rfl ?_
          show Steps p.tables e below (T15.setTop (mkF m 239 #[.val (.long p1), .second, .val (.long p2), .second, .val (.int p3), .val (.int p4), .val (.int p5), .val (.long sb), .second, .val (.int la), .val (.int a0_), .val (.int a1_), .val (.int lb), .val (.int e0_), .val (.int e1_), .val (.ref wa1), .val (.ref wb1), .val (.ref b8), .val (.ref b11), .val (.int vv14), .val (.int vv15), .val (.int (1 : Int32)), .unset] [(.long p1)])) _
          refine XS.lload X15.here hx rfl (hb hby at_239) rfl ?_
          show Steps p.tables e below (T15.setTop (mkF m 241 #[.val (.long p1), .second, .val (.long p2), .second, .val (.int p3), .val (.int p4), .val (.int p5), .val (.long sb), .second, .val (.int la), .val (.int a0_), .val (.int a1_), .val (.int lb), .val (.int e0_), .val (.int e1_), .val (.ref wa1), .val (.ref wb1), .val (.ref b8), .val (.ref b11), .val (.int vv14), .val (.int vv15), .val (.int (1 : Int32)), .unset] [(.long sb), (.long p1)])) _
          refine XS.lcmp X15.here hx rfl (hb hby at_241) rfl ?_
          show Steps p.tables e below (T15.setTop (mkF m 242 #[.val (.long p1), .second, .val (.long p2), .second, .val (.int p3), .val (.int p4), .val (.int p5), .val (.long sb), .second, .val (.int la), .val (.int a0_), .val (.int a1_), .val (.int lb), .val (.int e0_), .val (.int e1_), .val (.ref wa1), .val (.ref wb1), .val (.ref b8), .val (.ref b11), .val (.int vv14), .val (.int vv15), .val (.int (1 : Int32)), .unset] [(.int (lcmpW p1 sb))])) _
          refine XS.ifNo X15.here hx rfl (hb hby at_242) rfl (XT.ll_eq_f se) ?_
          show Steps p.tables e below (T15.setTop (mkF m 245 #[.val (.long p1), .second, .val (.long p2), .second, .val (.int p3), .val (.int p4), .val (.int p5), .val (.long sb), .second, .val (.int la), .val (.int a0_), .val (.int a1_), .val (.int lb), .val (.int e0_), .val (.int e1_), .val (.ref wa1), .val (.ref wb1), .val (.ref b8), .val (.ref b11), .val (.int vv14), .val (.int vv15), .val (.int (1 : Int32)), .unset] [])) _
          refine XS.lload X15.here hx rfl (hb hby at_245) rfl ?_
          show Steps p.tables e below (T15.setTop (mkF m 247 #[.val (.long p1), .second, .val (.long p2), .second, .val (.int p3), .val (.int p4), .val (.int p5), .val (.long sb), .second, .val (.int la), .val (.int a0_), .val (.int a1_), .val (.int lb), .val (.int e0_), .val (.int e1_), .val (.ref wa1), .val (.ref wb1), .val (.ref b8), .val (.ref b11), .val (.int vv14), .val (.int vv15), .val (.int (1 : Int32)), .unset] [(.long sb)])) _
          refine XS.lloadN X15.here hx rfl (hb hby at_247) rfl ?_
          show Steps p.tables e below (T15.setTop (mkF m 248 #[.val (.long p1), .second, .val (.long p2), .second, .val (.int p3), .val (.int p4), .val (.int p5), .val (.long sb), .second, .val (.int la), .val (.int a0_), .val (.int a1_), .val (.int lb), .val (.int e0_), .val (.int e1_), .val (.ref wa1), .val (.ref wb1), .val (.ref b8), .val (.ref b11), .val (.int vv14), .val (.int vv15), .val (.int (1 : Int32)), .unset] [(.long p1), (.long sb)])) _
          refine XS.lcmp X15.here hx rfl (hb hby at_248) rfl ?_
          show Steps p.tables e below (T15.setTop (mkF m 249 #[.val (.long p1), .second, .val (.long p2), .second, .val (.int p3), .val (.int p4), .val (.int p5), .val (.long sb), .second, .val (.int la), .val (.int a0_), .val (.int a1_), .val (.int lb), .val (.int e0_), .val (.int e1_), .val (.ref wa1), .val (.ref wb1), .val (.ref b8), .val (.ref b11), .val (.int vv14), .val (.int vv15), .val (.int (1 : Int32)), .unset] [(.int (lcmpW sb p1))])) _
          refine XS.ifYes X15.here hx rfl (pc0 := 249) (pc' := 256) rfl (hb hby at_249) rfl (XT.ll_ge_t s2) (by decide) (by decide) ?_
          show Steps p.tables e below (T15.setTop (mkF m 256 #[.val (.long p1), .second, .val (.long p2), .second, .val (.int p3), .val (.int p4), .val (.int p5), .val (.long sb), .second, .val (.int la), .val (.int a0_), .val (.int a1_), .val (.int lb), .val (.int e0_), .val (.int e1_), .val (.ref wa1), .val (.ref wb1), .val (.ref b8), .val (.ref b11), .val (.int vv14), .val (.int vv15), .val (.int (1 : Int32)), .unset] [])) _
          refine XS.iconst X15.here hx rfl (hb hby at_256) ?_
          show Steps p.tables e below (T15.setTop (mkF m 257 #[.val (.long p1), .second, .val (.long p2), .second, .val (.int p3), .val (.int p4), .val (.int p5), .val (.long sb), .second, .val (.int la), .val (.int a0_), .val (.int a1_), .val (.int lb), .val (.int e0_), .val (.int e1_), .val (.ref wa1), .val (.ref wb1), .val (.ref b8), .val (.ref b11), .val (.int vv14), .val (.int vv15), .val (.int (1 : Int32)), .unset] [(.int (0 : Int32))])) _
          refine XS.goto X15.here hx rfl (pc0 := 257) (pc' := 275) rfl (hb hby at_257) (by decide) (by decide) ?_
          show Steps p.tables e below (T15.setTop (mkF m 275 #[.val (.long p1), .second, .val (.long p2), .second, .val (.int p3), .val (.int p4), .val (.int p5), .val (.long sb), .second, .val (.int la), .val (.int a0_), .val (.int a1_), .val (.int lb), .val (.int e0_), .val (.int e1_), .val (.ref wa1), .val (.ref wb1), .val (.ref b8), .val (.ref b11), .val (.int vv14), .val (.int vv15), .val (.int (1 : Int32)), .unset] [(.int (0 : Int32))])) _
          refine XS.istore X15.here hx rfl (hb hby at_275) rfl (l' := #[.val (.long p1), .second, .val (.long p2), .second, .val (.int p3), .val (.int p4), .val (.int p5), .val (.long sb), .second, .val (.int la), .val (.int a0_), .val (.int a1_), .val (.int lb), .val (.int e0_), .val (.int e1_), .val (.ref wa1), .val (.ref wb1), .val (.ref b8), .val (.ref b11), .val (.int vv14), .val (.int vv15), .val (.int (1 : Int32)), .val (.int (0 : Int32))]) rfl ?_
          show Steps p.tables e below (T15.setTop (mkF m 277 #[.val (.long p1), .second, .val (.long p2), .second, .val (.int p3), .val (.int p4), .val (.int p5), .val (.long sb), .second, .val (.int la), .val (.int a0_), .val (.int a1_), .val (.int lb), .val (.int e0_), .val (.int e1_), .val (.ref wa1), .val (.ref wb1), .val (.ref b8), .val (.ref b11), .val (.int vv14), .val (.int vv15), .val (.int (1 : Int32)), .val (.int (0 : Int32))] [])) _
          refine XS.iload X15.here hx rfl (hb hby at_277) rfl ?_
          show Steps p.tables e below (T15.setTop (mkF m 279 #[.val (.long p1), .second, .val (.long p2), .second, .val (.int p3), .val (.int p4), .val (.int p5), .val (.long sb), .second, .val (.int la), .val (.int a0_), .val (.int a1_), .val (.int lb), .val (.int e0_), .val (.int e1_), .val (.ref wa1), .val (.ref wb1), .val (.ref b8), .val (.ref b11), .val (.int vv14), .val (.int vv15), .val (.int (1 : Int32)), .val (.int (0 : Int32))] [(.int vv14)])) _
          refine XS.iload X15.here hx rfl (hb hby at_279) rfl ?_
          show Steps p.tables e below (T15.setTop (mkF m 281 #[.val (.long p1), .second, .val (.long p2), .second, .val (.int p3), .val (.int p4), .val (.int p5), .val (.long sb), .second, .val (.int la), .val (.int a0_), .val (.int a1_), .val (.int lb), .val (.int e0_), .val (.int e1_), .val (.ref wa1), .val (.ref wb1), .val (.ref b8), .val (.ref b11), .val (.int vv14), .val (.int vv15), .val (.int (1 : Int32)), .val (.int (0 : Int32))] [(.int (1 : Int32)), (.int vv14)])) _
          refine XS.icmpNo X15.here hx rfl (hb hby at_281) rfl (teq (cq14_0 (Or.inl ⟨se, s1⟩))).2 ?_
          show Steps p.tables e below (T15.setTop (mkF m 284 #[.val (.long p1), .second, .val (.long p2), .second, .val (.int p3), .val (.int p4), .val (.int p5), .val (.long sb), .second, .val (.int la), .val (.int a0_), .val (.int a1_), .val (.int lb), .val (.int e0_), .val (.int e1_), .val (.ref wa1), .val (.ref wb1), .val (.ref b8), .val (.ref b11), .val (.int vv14), .val (.int vv15), .val (.int (1 : Int32)), .val (.int (0 : Int32))] [])) _
          refine XS.iload X15.here hx rfl (hb hby at_284) rfl ?_
          show Steps p.tables e below (T15.setTop (mkF m 286 #[.val (.long p1), .second, .val (.long p2), .second, .val (.int p3), .val (.int p4), .val (.int p5), .val (.long sb), .second, .val (.int la), .val (.int a0_), .val (.int a1_), .val (.int lb), .val (.int e0_), .val (.int e1_), .val (.ref wa1), .val (.ref wb1), .val (.ref b8), .val (.ref b11), .val (.int vv14), .val (.int vv15), .val (.int (1 : Int32)), .val (.int (0 : Int32))] [(.int vv15)])) _
          refine XS.iload X15.here hx rfl (hb hby at_286) rfl ?_
          show Steps p.tables e below (T15.setTop (mkF m 288 #[.val (.long p1), .second, .val (.long p2), .second, .val (.int p3), .val (.int p4), .val (.int p5), .val (.long sb), .second, .val (.int la), .val (.int a0_), .val (.int a1_), .val (.int lb), .val (.int e0_), .val (.int e1_), .val (.ref wa1), .val (.ref wb1), .val (.ref b8), .val (.ref b11), .val (.int vv14), .val (.int vv15), .val (.int (1 : Int32)), .val (.int (0 : Int32))] [(.int (0 : Int32)), (.int vv15)])) _
          refine XS.icmpNo X15.here hx rfl (hb hby at_288) rfl (teq (cq15_1 (fun z => z.elim (fun z => s2 z.2) (fun z => (fun z => se z.symm) z.1)))).2 ?_
          show Steps p.tables e below (T15.setTop (mkF m 291 #[.val (.long p1), .second, .val (.long p2), .second, .val (.int p3), .val (.int p4), .val (.int p5), .val (.long sb), .second, .val (.int la), .val (.int a0_), .val (.int a1_), .val (.int lb), .val (.int e0_), .val (.int e1_), .val (.ref wa1), .val (.ref wb1), .val (.ref b8), .val (.ref b11), .val (.int vv14), .val (.int vv15), .val (.int (1 : Int32)), .val (.int (0 : Int32))] [])) _
          refine XS.iconst X15.here hx rfl (hb hby at_291) ?_
          show Steps p.tables e below (T15.setTop (mkF m 292 #[.val (.long p1), .second, .val (.long p2), .second, .val (.int p3), .val (.int p4), .val (.int p5), .val (.long sb), .second, .val (.int la), .val (.int a0_), .val (.int a1_), .val (.int lb), .val (.int e0_), .val (.int e1_), .val (.ref wa1), .val (.ref wb1), .val (.ref b8), .val (.ref b11), .val (.int vv14), .val (.int vv15), .val (.int (1 : Int32)), .val (.int (0 : Int32))] [(.int (1 : Int32))])) _
          refine XS.goto X15.here hx rfl (pc0 := 292) (pc' := 296) rfl (hb hby at_292) (by decide) (by decide) ?_
          show Steps p.tables e below (T15.setTop (mkF m 296 #[.val (.long p1), .second, .val (.long p2), .second, .val (.int p3), .val (.int p4), .val (.int p5), .val (.long sb), .second, .val (.int la), .val (.int a0_), .val (.int a1_), .val (.int lb), .val (.int e0_), .val (.int e1_), .val (.ref wa1), .val (.ref wb1), .val (.ref b8), .val (.ref b11), .val (.int vv14), .val (.int vv15), .val (.int (1 : Int32)), .val (.int (0 : Int32))] [(.int (1 : Int32))])) _
          exact k
        obtain ⟨fs, hr, hrun, hended, hEnd⟩ := X15.leaveW hS (by rw [Kq15]; exact hk) (v := some (.int (1 : Int32))) (fun h => by rw [Bd.returns] at h; cases h)
        refine ⟨_, _, retN X15 hx (t := .boolean) Bd.returns (by simp) (hb hby at_296) hr, hfin _ _ ⟨hrun, hended, _, _, rfl, ?_, hEnd.1, hEnd.2.1, hEnd.2.2.1, hEnd.2.2.2.mono (by decide) (by decide)⟩⟩
        show Q0 Z p1 p2 p3 p4 p5 wR wW zc h0 n0 _ T15.heap _
        rw [Kq15]
        exact ⟨rfl, N⟩
    · by_cases s2 : sb < p1
      · refine own_go (B := T15.setTop (mkF m 296 #[.val (.long p1), .second, .val (.long p2), .second, .val (.int p3), .val (.int p4), .val (.int p5), .val (.long sb), .second, .val (.int la), .val (.int a0_), .val (.int a1_), .val (.int lb), .val (.int e0_), .val (.int e1_), .val (.ref wa1), .val (.ref wb1), .val (.ref b8), .val (.ref b11), .val (.int vv14), .val (.int vv15), .val (.int (0 : Int32)), .val (.int (1 : Int32))] [(.int (1 : Int32))])) (fun t k => ?_) ?_
        · show Steps p.tables e below (T15.setTop (mkF m 199 #[.val (.long p1), .second, .val (.long p2), .second, .val (.int p3), .val (.int p4), .val (.int p5), .val (.long sb), .second, .val (.int la), .val (.int a0_), .val (.int a1_), .val (.int lb), .val (.int e0_), .val (.int e1_), .val (.ref wa1), .val (.ref wb1), .val (.ref b8), .val (.ref b11), .val (.int vv14), .val (.int vv15), .unset, .unset] [])) _
          refine XS.lloadN X15.here hx rfl (hb hby at_199) rfl ?_
          show Steps p.tables e below (T15.setTop (mkF m 200 #[.val (.long p1), .second, .val (.long p2), .second, .val (.int p3), .val (.int p4), .val (.int p5), .val (.long sb), .second, .val (.int la), .val (.int a0_), .val (.int a1_), .val (.int lb), .val (.int e0_), .val (.int e1_), .val (.ref wa1), .val (.ref wb1), .val (.ref b8), .val (.ref b11), .val (.int vv14), .val (.int vv15), .unset, .unset] [(.long p1)])) _
          refine XS.lload X15.here hx rfl (hb hby at_200) rfl ?_
          show Steps p.tables e below (T15.setTop (mkF m 202 #[.val (.long p1), .second, .val (.long p2), .second, .val (.int p3), .val (.int p4), .val (.int p5), .val (.long sb), .second, .val (.int la), .val (.int a0_), .val (.int a1_), .val (.int lb), .val (.int e0_), .val (.int e1_), .val (.ref wa1), .val (.ref wb1), .val (.ref b8), .val (.ref b11), .val (.int vv14), .val (.int vv15), .unset, .unset] [(.long sb), (.long p1)])) _
          refine XS.lcmp X15.here hx rfl (hb hby at_202) rfl ?_
          show Steps p.tables e below (T15.setTop (mkF m 203 #[.val (.long p1), .second, .val (.long p2), .second, .val (.int p3), .val (.int p4), .val (.int p5), .val (.long sb), .second, .val (.int la), .val (.int a0_), .val (.int a1_), .val (.int lb), .val (.int e0_), .val (.int e1_), .val (.ref wa1), .val (.ref wb1), .val (.ref b8), .val (.ref b11), .val (.int vv14), .val (.int vv15), .unset, .unset] [(.int (lcmpW p1 sb))])) _
          refine XS.ifNo X15.here hx rfl (hb hby at_203) rfl (XT.ll_eq_f se) ?_
          show Steps p.tables e below (T15.setTop (mkF m 206 #[.val (.long p1), .second, .val (.long p2), .second, .val (.int p3), .val (.int p4), .val (.int p5), .val (.long sb), .second, .val (.int la), .val (.int a0_), .val (.int a1_), .val (.int lb), .val (.int e0_), .val (.int e1_), .val (.ref wa1), .val (.ref wb1), .val (.ref b8), .val (.ref b11), .val (.int vv14), .val (.int vv15), .unset, .unset] [])) _
          refine XS.lloadN X15.here hx rfl (hb hby at_206) rfl ?_
          show Steps p.tables e below (T15.setTop (mkF m 207 #[.val (.long p1), .second, .val (.long p2), .second, .val (.int p3), .val (.int p4), .val (.int p5), .val (.long sb), .second, .val (.int la), .val (.int a0_), .val (.int a1_), .val (.int lb), .val (.int e0_), .val (.int e1_), .val (.ref wa1), .val (.ref wb1), .val (.ref b8), .val (.ref b11), .val (.int vv14), .val (.int vv15), .unset, .unset] [(.long p1)])) _
          refine XS.lload X15.here hx rfl (hb hby at_207) rfl ?_
          show Steps p.tables e below (T15.setTop (mkF m 209 #[.val (.long p1), .second, .val (.long p2), .second, .val (.int p3), .val (.int p4), .val (.int p5), .val (.long sb), .second, .val (.int la), .val (.int a0_), .val (.int a1_), .val (.int lb), .val (.int e0_), .val (.int e1_), .val (.ref wa1), .val (.ref wb1), .val (.ref b8), .val (.ref b11), .val (.int vv14), .val (.int vv15), .unset, .unset] [(.long sb), (.long p1)])) _
          refine XS.lcmp X15.here hx rfl (hb hby at_209) rfl ?_
          show Steps p.tables e below (T15.setTop (mkF m 210 #[.val (.long p1), .second, .val (.long p2), .second, .val (.int p3), .val (.int p4), .val (.int p5), .val (.long sb), .second, .val (.int la), .val (.int a0_), .val (.int a1_), .val (.int lb), .val (.int e0_), .val (.int e1_), .val (.ref wa1), .val (.ref wb1), .val (.ref b8), .val (.ref b11), .val (.int vv14), .val (.int vv15), .unset, .unset] [(.int (lcmpW p1 sb))])) _
          refine XS.ifYes X15.here hx rfl (pc0 := 210) (pc' := 217) rfl (hb hby at_210) rfl (XT.ll_ge_t s1) (by decide) (by decide) ?_
          show Steps p.tables e below (T15.setTop (mkF m 217 #[.val (.long p1), .second, .val (.long p2), .second, .val (.int p3), .val (.int p4), .val (.int p5), .val (.long sb), .second, .val (.int la), .val (.int a0_), .val (.int a1_), .val (.int lb), .val (.int e0_), .val (.int e1_), .val (.ref wa1), .val (.ref wb1), .val (.ref b8), .val (.ref b11), .val (.int vv14), .val (.int vv15), .unset, .unset] [])) _
          refine XS.iconst X15.here hx rfl (hb hby at_217) ?_
          show Steps p.tables e below (T15.setTop (mkF m 218 #[.val (.long p1), .second, .val (.long p2), .second, .val (.int p3), .val (.int p4), .val (.int p5), .val (.long sb), .second, .val (.int la), .val (.int a0_), .val (.int a1_), .val (.int lb), .val (.int e0_), .val (.int e1_), .val (.ref wa1), .val (.ref wb1), .val (.ref b8), .val (.ref b11), .val (.int vv14), .val (.int vv15), .unset, .unset] [(.int (0 : Int32))])) _
          refine XS.goto X15.here hx rfl (pc0 := 218) (pc' := 236) rfl (hb hby at_218) (by decide) (by decide) ?_
          show Steps p.tables e below (T15.setTop (mkF m 236 #[.val (.long p1), .second, .val (.long p2), .second, .val (.int p3), .val (.int p4), .val (.int p5), .val (.long sb), .second, .val (.int la), .val (.int a0_), .val (.int a1_), .val (.int lb), .val (.int e0_), .val (.int e1_), .val (.ref wa1), .val (.ref wb1), .val (.ref b8), .val (.ref b11), .val (.int vv14), .val (.int vv15), .unset, .unset] [(.int (0 : Int32))])) _
          refine XS.istore X15.here hx rfl (hb hby at_236) rfl (l' := #[.val (.long p1), .second, .val (.long p2), .second, .val (.int p3), .val (.int p4), .val (.int p5), .val (.long sb), .second, .val (.int la), .val (.int a0_), .val (.int a1_), .val (.int lb), .val (.int e0_), .val (.int e1_), .val (.ref wa1), .val (.ref wb1), .val (.ref b8), .val (.ref b11), .val (.int vv14), .val (.int vv15), .val (.int (0 : Int32)), .unset]) rfl ?_
          show Steps p.tables e below (T15.setTop (mkF m 238 #[.val (.long p1), .second, .val (.long p2), .second, .val (.int p3), .val (.int p4), .val (.int p5), .val (.long sb), .second, .val (.int la), .val (.int a0_), .val (.int a1_), .val (.int lb), .val (.int e0_), .val (.int e1_), .val (.ref wa1), .val (.ref wb1), .val (.ref b8), .val (.ref b11), .val (.int vv14), .val (.int vv15), .val (.int (0 : Int32)), .unset] [])) _
          refine XS.lloadN X15.here hx rfl (hb hby at_238) rfl ?_
          show Steps p.tables e below (T15.setTop (mkF m 239 #[.val (.long p1), .second, .val (.long p2), .second, .val (.int p3), .val (.int p4), .val (.int p5), .val (.long sb), .second, .val (.int la), .val (.int a0_), .val (.int a1_), .val (.int lb), .val (.int e0_), .val (.int e1_), .val (.ref wa1), .val (.ref wb1), .val (.ref b8), .val (.ref b11), .val (.int vv14), .val (.int vv15), .val (.int (0 : Int32)), .unset] [(.long p1)])) _
          refine XS.lload X15.here hx rfl (hb hby at_239) rfl ?_
          show Steps p.tables e below (T15.setTop (mkF m 241 #[.val (.long p1), .second, .val (.long p2), .second, .val (.int p3), .val (.int p4), .val (.int p5), .val (.long sb), .second, .val (.int la), .val (.int a0_), .val (.int a1_), .val (.int lb), .val (.int e0_), .val (.int e1_), .val (.ref wa1), .val (.ref wb1), .val (.ref b8), .val (.ref b11), .val (.int vv14), .val (.int vv15), .val (.int (0 : Int32)), .unset] [(.long sb), (.long p1)])) _
          refine XS.lcmp X15.here hx rfl (hb hby at_241) rfl ?_
          show Steps p.tables e below (T15.setTop (mkF m 242 #[.val (.long p1), .second, .val (.long p2), .second, .val (.int p3), .val (.int p4), .val (.int p5), .val (.long sb), .second, .val (.int la), .val (.int a0_), .val (.int a1_), .val (.int lb), .val (.int e0_), .val (.int e1_), .val (.ref wa1), .val (.ref wb1), .val (.ref b8), .val (.ref b11), .val (.int vv14), .val (.int vv15), .val (.int (0 : Int32)), .unset] [(.int (lcmpW p1 sb))])) _
          refine XS.ifNo X15.here hx rfl (hb hby at_242) rfl (XT.ll_eq_f se) ?_
          show Steps p.tables e below (T15.setTop (mkF m 245 #[.val (.long p1), .second, .val (.long p2), .second, .val (.int p3), .val (.int p4), .val (.int p5), .val (.long sb), .second, .val (.int la), .val (.int a0_), .val (.int a1_), .val (.int lb), .val (.int e0_), .val (.int e1_), .val (.ref wa1), .val (.ref wb1), .val (.ref b8), .val (.ref b11), .val (.int vv14), .val (.int vv15), .val (.int (0 : Int32)), .unset] [])) _
          refine XS.lload X15.here hx rfl (hb hby at_245) rfl ?_
          show Steps p.tables e below (T15.setTop (mkF m 247 #[.val (.long p1), .second, .val (.long p2), .second, .val (.int p3), .val (.int p4), .val (.int p5), .val (.long sb), .second, .val (.int la), .val (.int a0_), .val (.int a1_), .val (.int lb), .val (.int e0_), .val (.int e1_), .val (.ref wa1), .val (.ref wb1), .val (.ref b8), .val (.ref b11), .val (.int vv14), .val (.int vv15), .val (.int (0 : Int32)), .unset] [(.long sb)])) _
          refine XS.lloadN X15.here hx rfl (hb hby at_247) rfl ?_
          show Steps p.tables e below (T15.setTop (mkF m 248 #[.val (.long p1), .second, .val (.long p2), .second, .val (.int p3), .val (.int p4), .val (.int p5), .val (.long sb), .second, .val (.int la), .val (.int a0_), .val (.int a1_), .val (.int lb), .val (.int e0_), .val (.int e1_), .val (.ref wa1), .val (.ref wb1), .val (.ref b8), .val (.ref b11), .val (.int vv14), .val (.int vv15), .val (.int (0 : Int32)), .unset] [(.long p1), (.long sb)])) _
          refine XS.lcmp X15.here hx rfl (hb hby at_248) rfl ?_
          show Steps p.tables e below (T15.setTop (mkF m 249 #[.val (.long p1), .second, .val (.long p2), .second, .val (.int p3), .val (.int p4), .val (.int p5), .val (.long sb), .second, .val (.int la), .val (.int a0_), .val (.int a1_), .val (.int lb), .val (.int e0_), .val (.int e1_), .val (.ref wa1), .val (.ref wb1), .val (.ref b8), .val (.ref b11), .val (.int vv14), .val (.int vv15), .val (.int (0 : Int32)), .unset] [(.int (lcmpW sb p1))])) _
          refine XS.ifNo X15.here hx rfl (hb hby at_249) rfl (XT.ll_ge_f s2) ?_
          show Steps p.tables e below (T15.setTop (mkF m 252 #[.val (.long p1), .second, .val (.long p2), .second, .val (.int p3), .val (.int p4), .val (.int p5), .val (.long sb), .second, .val (.int la), .val (.int a0_), .val (.int a1_), .val (.int lb), .val (.int e0_), .val (.int e1_), .val (.ref wa1), .val (.ref wb1), .val (.ref b8), .val (.ref b11), .val (.int vv14), .val (.int vv15), .val (.int (0 : Int32)), .unset] [])) _
          refine XS.iconst X15.here hx rfl (hb hby at_252) ?_
          show Steps p.tables e below (T15.setTop (mkF m 253 #[.val (.long p1), .second, .val (.long p2), .second, .val (.int p3), .val (.int p4), .val (.int p5), .val (.long sb), .second, .val (.int la), .val (.int a0_), .val (.int a1_), .val (.int lb), .val (.int e0_), .val (.int e1_), .val (.ref wa1), .val (.ref wb1), .val (.ref b8), .val (.ref b11), .val (.int vv14), .val (.int vv15), .val (.int (0 : Int32)), .unset] [(.int (1 : Int32))])) _
          refine XS.goto X15.here hx rfl (pc0 := 253) (pc' := 275) rfl (hb hby at_253) (by decide) (by decide) ?_
          show Steps p.tables e below (T15.setTop (mkF m 275 #[.val (.long p1), .second, .val (.long p2), .second, .val (.int p3), .val (.int p4), .val (.int p5), .val (.long sb), .second, .val (.int la), .val (.int a0_), .val (.int a1_), .val (.int lb), .val (.int e0_), .val (.int e1_), .val (.ref wa1), .val (.ref wb1), .val (.ref b8), .val (.ref b11), .val (.int vv14), .val (.int vv15), .val (.int (0 : Int32)), .unset] [(.int (1 : Int32))])) _
          refine XS.istore X15.here hx rfl (hb hby at_275) rfl (l' := #[.val (.long p1), .second, .val (.long p2), .second, .val (.int p3), .val (.int p4), .val (.int p5), .val (.long sb), .second, .val (.int la), .val (.int a0_), .val (.int a1_), .val (.int lb), .val (.int e0_), .val (.int e1_), .val (.ref wa1), .val (.ref wb1), .val (.ref b8), .val (.ref b11), .val (.int vv14), .val (.int vv15), .val (.int (0 : Int32)), .val (.int (1 : Int32))]) rfl ?_
          show Steps p.tables e below (T15.setTop (mkF m 277 #[.val (.long p1), .second, .val (.long p2), .second, .val (.int p3), .val (.int p4), .val (.int p5), .val (.long sb), .second, .val (.int la), .val (.int a0_), .val (.int a1_), .val (.int lb), .val (.int e0_), .val (.int e1_), .val (.ref wa1), .val (.ref wb1), .val (.ref b8), .val (.ref b11), .val (.int vv14), .val (.int vv15), .val (.int (0 : Int32)), .val (.int (1 : Int32))] [])) _
          refine XS.iload X15.here hx rfl (hb hby at_277) rfl ?_
          show Steps p.tables e below (T15.setTop (mkF m 279 #[.val (.long p1), .second, .val (.long p2), .second, .val (.int p3), .val (.int p4), .val (.int p5), .val (.long sb), .second, .val (.int la), .val (.int a0_), .val (.int a1_), .val (.int lb), .val (.int e0_), .val (.int e1_), .val (.ref wa1), .val (.ref wb1), .val (.ref b8), .val (.ref b11), .val (.int vv14), .val (.int vv15), .val (.int (0 : Int32)), .val (.int (1 : Int32))] [(.int vv14)])) _
          refine XS.iload X15.here hx rfl (hb hby at_279) rfl ?_
          show Steps p.tables e below (T15.setTop (mkF m 281 #[.val (.long p1), .second, .val (.long p2), .second, .val (.int p3), .val (.int p4), .val (.int p5), .val (.long sb), .second, .val (.int la), .val (.int a0_), .val (.int a1_), .val (.int lb), .val (.int e0_), .val (.int e1_), .val (.ref wa1), .val (.ref wb1), .val (.ref b8), .val (.ref b11), .val (.int vv14), .val (.int vv15), .val (.int (0 : Int32)), .val (.int (1 : Int32))] [(.int (0 : Int32)), (.int vv14)])) _
          refine XS.icmpNo X15.here hx rfl (hb hby at_281) rfl (teq (cq14_1 (fun z => z.elim (fun z => s1 z.2) (fun z => se z.1)))).2 ?_
          show Steps p.tables e below (T15.setTop (mkF m 284 #[.val (.long p1), .second, .val (.long p2), .second, .val (.int p3), .val (.int p4), .val (.int p5), .val (.long sb), .second, .val (.int la), .val (.int a0_), .val (.int a1_), .val (.int lb), .val (.int e0_), .val (.int e1_), .val (.ref wa1), .val (.ref wb1), .val (.ref b8), .val (.ref b11), .val (.int vv14), .val (.int vv15), .val (.int (0 : Int32)), .val (.int (1 : Int32))] [])) _
          refine XS.iload X15.here hx rfl (hb hby at_284) rfl ?_
          show Steps p.tables e below (T15.setTop (mkF m 286 #[.val (.long p1), .second, .val (.long p2), .second, .val (.int p3), .val (.int p4), .val (.int p5), .val (.long sb), .second, .val (.int la), .val (.int a0_), .val (.int a1_), .val (.int lb), .val (.int e0_), .val (.int e1_), .val (.ref wa1), .val (.ref wb1), .val (.ref b8), .val (.ref b11), .val (.int vv14), .val (.int vv15), .val (.int (0 : Int32)), .val (.int (1 : Int32))] [(.int vv15)])) _
          refine XS.iload X15.here hx rfl (hb hby at_286) rfl ?_
          show Steps p.tables e below (T15.setTop (mkF m 288 #[.val (.long p1), .second, .val (.long p2), .second, .val (.int p3), .val (.int p4), .val (.int p5), .val (.long sb), .second, .val (.int la), .val (.int a0_), .val (.int a1_), .val (.int lb), .val (.int e0_), .val (.int e1_), .val (.ref wa1), .val (.ref wb1), .val (.ref b8), .val (.ref b11), .val (.int vv14), .val (.int vv15), .val (.int (0 : Int32)), .val (.int (1 : Int32))] [(.int (1 : Int32)), (.int vv15)])) _
          refine XS.icmpNo X15.here hx rfl (hb hby at_288) rfl (teq (cq15_0 (Or.inl ⟨(fun z => se z.symm), s2⟩))).2 ?_
          show Steps p.tables e below (T15.setTop (mkF m 291 #[.val (.long p1), .second, .val (.long p2), .second, .val (.int p3), .val (.int p4), .val (.int p5), .val (.long sb), .second, .val (.int la), .val (.int a0_), .val (.int a1_), .val (.int lb), .val (.int e0_), .val (.int e1_), .val (.ref wa1), .val (.ref wb1), .val (.ref b8), .val (.ref b11), .val (.int vv14), .val (.int vv15), .val (.int (0 : Int32)), .val (.int (1 : Int32))] [])) _
          refine XS.iconst X15.here hx rfl (hb hby at_291) ?_
          show Steps p.tables e below (T15.setTop (mkF m 292 #[.val (.long p1), .second, .val (.long p2), .second, .val (.int p3), .val (.int p4), .val (.int p5), .val (.long sb), .second, .val (.int la), .val (.int a0_), .val (.int a1_), .val (.int lb), .val (.int e0_), .val (.int e1_), .val (.ref wa1), .val (.ref wb1), .val (.ref b8), .val (.ref b11), .val (.int vv14), .val (.int vv15), .val (.int (0 : Int32)), .val (.int (1 : Int32))] [(.int (1 : Int32))])) _
          refine XS.goto X15.here hx rfl (pc0 := 292) (pc' := 296) rfl (hb hby at_292) (by decide) (by decide) ?_
          show Steps p.tables e below (T15.setTop (mkF m 296 #[.val (.long p1), .second, .val (.long p2), .second, .val (.int p3), .val (.int p4), .val (.int p5), .val (.long sb), .second, .val (.int la), .val (.int a0_), .val (.int a1_), .val (.int lb), .val (.int e0_), .val (.int e1_), .val (.ref wa1), .val (.ref wb1), .val (.ref b8), .val (.ref b11), .val (.int vv14), .val (.int vv15), .val (.int (0 : Int32)), .val (.int (1 : Int32))] [(.int (1 : Int32))])) _
          exact k
        obtain ⟨fs, hr, hrun, hended, hEnd⟩ := X15.leaveW hS (by rw [Kq15]; exact hk) (v := some (.int (1 : Int32))) (fun h => by rw [Bd.returns] at h; cases h)
        refine ⟨_, _, retN X15 hx (t := .boolean) Bd.returns (by simp) (hb hby at_296) hr, hfin _ _ ⟨hrun, hended, _, _, rfl, ?_, hEnd.1, hEnd.2.1, hEnd.2.2.1, hEnd.2.2.2.mono (by decide) (by decide)⟩⟩
        show Q0 Z p1 p2 p3 p4 p5 wR wW zc h0 n0 _ T15.heap _
        rw [Kq15]
        exact ⟨rfl, N⟩
      · refine own_go (B := T15.setTop (mkF m 296 #[.val (.long p1), .second, .val (.long p2), .second, .val (.int p3), .val (.int p4), .val (.int p5), .val (.long sb), .second, .val (.int la), .val (.int a0_), .val (.int a1_), .val (.int lb), .val (.int e0_), .val (.int e1_), .val (.ref wa1), .val (.ref wb1), .val (.ref b8), .val (.ref b11), .val (.int vv14), .val (.int vv15), .val (.int (0 : Int32)), .val (.int (0 : Int32))] [(.int (1 : Int32))])) (fun t k => ?_) ?_
        · show Steps p.tables e below (T15.setTop (mkF m 199 #[.val (.long p1), .second, .val (.long p2), .second, .val (.int p3), .val (.int p4), .val (.int p5), .val (.long sb), .second, .val (.int la), .val (.int a0_), .val (.int a1_), .val (.int lb), .val (.int e0_), .val (.int e1_), .val (.ref wa1), .val (.ref wb1), .val (.ref b8), .val (.ref b11), .val (.int vv14), .val (.int vv15), .unset, .unset] [])) _
          refine XS.lloadN X15.here hx rfl (hb hby at_199) rfl ?_
          show Steps p.tables e below (T15.setTop (mkF m 200 #[.val (.long p1), .second, .val (.long p2), .second, .val (.int p3), .val (.int p4), .val (.int p5), .val (.long sb), .second, .val (.int la), .val (.int a0_), .val (.int a1_), .val (.int lb), .val (.int e0_), .val (.int e1_), .val (.ref wa1), .val (.ref wb1), .val (.ref b8), .val (.ref b11), .val (.int vv14), .val (.int vv15), .unset, .unset] [(.long p1)])) _
          refine XS.lload X15.here hx rfl (hb hby at_200) rfl ?_
          show Steps p.tables e below (T15.setTop (mkF m 202 #[.val (.long p1), .second, .val (.long p2), .second, .val (.int p3), .val (.int p4), .val (.int p5), .val (.long sb), .second, .val (.int la), .val (.int a0_), .val (.int a1_), .val (.int lb), .val (.int e0_), .val (.int e1_), .val (.ref wa1), .val (.ref wb1), .val (.ref b8), .val (.ref b11), .val (.int vv14), .val (.int vv15), .unset, .unset] [(.long sb), (.long p1)])) _
          refine XS.lcmp X15.here hx rfl (hb hby at_202) rfl ?_
          show Steps p.tables e below (T15.setTop (mkF m 203 #[.val (.long p1), .second, .val (.long p2), .second, .val (.int p3), .val (.int p4), .val (.int p5), .val (.long sb), .second, .val (.int la), .val (.int a0_), .val (.int a1_), .val (.int lb), .val (.int e0_), .val (.int e1_), .val (.ref wa1), .val (.ref wb1), .val (.ref b8), .val (.ref b11), .val (.int vv14), .val (.int vv15), .unset, .unset] [(.int (lcmpW p1 sb))])) _
          refine XS.ifNo X15.here hx rfl (hb hby at_203) rfl (XT.ll_eq_f se) ?_
          show Steps p.tables e below (T15.setTop (mkF m 206 #[.val (.long p1), .second, .val (.long p2), .second, .val (.int p3), .val (.int p4), .val (.int p5), .val (.long sb), .second, .val (.int la), .val (.int a0_), .val (.int a1_), .val (.int lb), .val (.int e0_), .val (.int e1_), .val (.ref wa1), .val (.ref wb1), .val (.ref b8), .val (.ref b11), .val (.int vv14), .val (.int vv15), .unset, .unset] [])) _
          refine XS.lloadN X15.here hx rfl (hb hby at_206) rfl ?_
          show Steps p.tables e below (T15.setTop (mkF m 207 #[.val (.long p1), .second, .val (.long p2), .second, .val (.int p3), .val (.int p4), .val (.int p5), .val (.long sb), .second, .val (.int la), .val (.int a0_), .val (.int a1_), .val (.int lb), .val (.int e0_), .val (.int e1_), .val (.ref wa1), .val (.ref wb1), .val (.ref b8), .val (.ref b11), .val (.int vv14), .val (.int vv15), .unset, .unset] [(.long p1)])) _
          refine XS.lload X15.here hx rfl (hb hby at_207) rfl ?_
          show Steps p.tables e below (T15.setTop (mkF m 209 #[.val (.long p1), .second, .val (.long p2), .second, .val (.int p3), .val (.int p4), .val (.int p5), .val (.long sb), .second, .val (.int la), .val (.int a0_), .val (.int a1_), .val (.int lb), .val (.int e0_), .val (.int e1_), .val (.ref wa1), .val (.ref wb1), .val (.ref b8), .val (.ref b11), .val (.int vv14), .val (.int vv15), .unset, .unset] [(.long sb), (.long p1)])) _
          refine XS.lcmp X15.here hx rfl (hb hby at_209) rfl ?_
          show Steps p.tables e below (T15.setTop (mkF m 210 #[.val (.long p1), .second, .val (.long p2), .second, .val (.int p3), .val (.int p4), .val (.int p5), .val (.long sb), .second, .val (.int la), .val (.int a0_), .val (.int a1_), .val (.int lb), .val (.int e0_), .val (.int e1_), .val (.ref wa1), .val (.ref wb1), .val (.ref b8), .val (.ref b11), .val (.int vv14), .val (.int vv15), .unset, .unset] [(.int (lcmpW p1 sb))])) _
          refine XS.ifYes X15.here hx rfl (pc0 := 210) (pc' := 217) rfl (hb hby at_210) rfl (XT.ll_ge_t s1) (by decide) (by decide) ?_
          show Steps p.tables e below (T15.setTop (mkF m 217 #[.val (.long p1), .second, .val (.long p2), .second, .val (.int p3), .val (.int p4), .val (.int p5), .val (.long sb), .second, .val (.int la), .val (.int a0_), .val (.int a1_), .val (.int lb), .val (.int e0_), .val (.int e1_), .val (.ref wa1), .val (.ref wb1), .val (.ref b8), .val (.ref b11), .val (.int vv14), .val (.int vv15), .unset, .unset] [])) _
          refine XS.iconst X15.here hx rfl (hb hby at_217) ?_
          show Steps p.tables e below (T15.setTop (mkF m 218 #[.val (.long p1), .second, .val (.long p2), .second, .val (.int p3), .val (.int p4), .val (.int p5), .val (.long sb), .second, .val (.int la), .val (.int a0_), .val (.int a1_), .val (.int lb), .val (.int e0_), .val (.int e1_), .val (.ref wa1), .val (.ref wb1), .val (.ref b8), .val (.ref b11), .val (.int vv14), .val (.int vv15), .unset, .unset] [(.int (0 : Int32))])) _
          refine XS.goto X15.here hx rfl (pc0 := 218) (pc' := 236) rfl (hb hby at_218) (by decide) (by decide) ?_
          show Steps p.tables e below (T15.setTop (mkF m 236 #[.val (.long p1), .second, .val (.long p2), .second, .val (.int p3), .val (.int p4), .val (.int p5), .val (.long sb), .second, .val (.int la), .val (.int a0_), .val (.int a1_), .val (.int lb), .val (.int e0_), .val (.int e1_), .val (.ref wa1), .val (.ref wb1), .val (.ref b8), .val (.ref b11), .val (.int vv14), .val (.int vv15), .unset, .unset] [(.int (0 : Int32))])) _
          refine XS.istore X15.here hx rfl (hb hby at_236) rfl (l' := #[.val (.long p1), .second, .val (.long p2), .second, .val (.int p3), .val (.int p4), .val (.int p5), .val (.long sb), .second, .val (.int la), .val (.int a0_), .val (.int a1_), .val (.int lb), .val (.int e0_), .val (.int e1_), .val (.ref wa1), .val (.ref wb1), .val (.ref b8), .val (.ref b11), .val (.int vv14), .val (.int vv15), .val (.int (0 : Int32)), .unset]) rfl ?_
          show Steps p.tables e below (T15.setTop (mkF m 238 #[.val (.long p1), .second, .val (.long p2), .second, .val (.int p3), .val (.int p4), .val (.int p5), .val (.long sb), .second, .val (.int la), .val (.int a0_), .val (.int a1_), .val (.int lb), .val (.int e0_), .val (.int e1_), .val (.ref wa1), .val (.ref wb1), .val (.ref b8), .val (.ref b11), .val (.int vv14), .val (.int vv15), .val (.int (0 : Int32)), .unset] [])) _
          refine XS.lloadN X15.here hx rfl (hb hby at_238) rfl ?_
          show Steps p.tables e below (T15.setTop (mkF m 239 #[.val (.long p1), .second, .val (.long p2), .second, .val (.int p3), .val (.int p4), .val (.int p5), .val (.long sb), .second, .val (.int la), .val (.int a0_), .val (.int a1_), .val (.int lb), .val (.int e0_), .val (.int e1_), .val (.ref wa1), .val (.ref wb1), .val (.ref b8), .val (.ref b11), .val (.int vv14), .val (.int vv15), .val (.int (0 : Int32)), .unset] [(.long p1)])) _
          refine XS.lload X15.here hx rfl (hb hby at_239) rfl ?_
          show Steps p.tables e below (T15.setTop (mkF m 241 #[.val (.long p1), .second, .val (.long p2), .second, .val (.int p3), .val (.int p4), .val (.int p5), .val (.long sb), .second, .val (.int la), .val (.int a0_), .val (.int a1_), .val (.int lb), .val (.int e0_), .val (.int e1_), .val (.ref wa1), .val (.ref wb1), .val (.ref b8), .val (.ref b11), .val (.int vv14), .val (.int vv15), .val (.int (0 : Int32)), .unset] [(.long sb), (.long p1)])) _
          refine XS.lcmp X15.here hx rfl (hb hby at_241) rfl ?_
          show Steps p.tables e below (T15.setTop (mkF m 242 #[.val (.long p1), .second, .val (.long p2), .second, .val (.int p3), .val (.int p4), .val (.int p5), .val (.long sb), .second, .val (.int la), .val (.int a0_), .val (.int a1_), .val (.int lb), .val (.int e0_), .val (.int e1_), .val (.ref wa1), .val (.ref wb1), .val (.ref b8), .val (.ref b11), .val (.int vv14), .val (.int vv15), .val (.int (0 : Int32)), .unset] [(.int (lcmpW p1 sb))])) _
          refine XS.ifNo X15.here hx rfl (hb hby at_242) rfl (XT.ll_eq_f se) ?_
          show Steps p.tables e below (T15.setTop (mkF m 245 #[.val (.long p1), .second, .val (.long p2), .second, .val (.int p3), .val (.int p4), .val (.int p5), .val (.long sb), .second, .val (.int la), .val (.int a0_), .val (.int a1_), .val (.int lb), .val (.int e0_), .val (.int e1_), .val (.ref wa1), .val (.ref wb1), .val (.ref b8), .val (.ref b11), .val (.int vv14), .val (.int vv15), .val (.int (0 : Int32)), .unset] [])) _
          refine XS.lload X15.here hx rfl (hb hby at_245) rfl ?_
          show Steps p.tables e below (T15.setTop (mkF m 247 #[.val (.long p1), .second, .val (.long p2), .second, .val (.int p3), .val (.int p4), .val (.int p5), .val (.long sb), .second, .val (.int la), .val (.int a0_), .val (.int a1_), .val (.int lb), .val (.int e0_), .val (.int e1_), .val (.ref wa1), .val (.ref wb1), .val (.ref b8), .val (.ref b11), .val (.int vv14), .val (.int vv15), .val (.int (0 : Int32)), .unset] [(.long sb)])) _
          refine XS.lloadN X15.here hx rfl (hb hby at_247) rfl ?_
          show Steps p.tables e below (T15.setTop (mkF m 248 #[.val (.long p1), .second, .val (.long p2), .second, .val (.int p3), .val (.int p4), .val (.int p5), .val (.long sb), .second, .val (.int la), .val (.int a0_), .val (.int a1_), .val (.int lb), .val (.int e0_), .val (.int e1_), .val (.ref wa1), .val (.ref wb1), .val (.ref b8), .val (.ref b11), .val (.int vv14), .val (.int vv15), .val (.int (0 : Int32)), .unset] [(.long p1), (.long sb)])) _
          refine XS.lcmp X15.here hx rfl (hb hby at_248) rfl ?_
          show Steps p.tables e below (T15.setTop (mkF m 249 #[.val (.long p1), .second, .val (.long p2), .second, .val (.int p3), .val (.int p4), .val (.int p5), .val (.long sb), .second, .val (.int la), .val (.int a0_), .val (.int a1_), .val (.int lb), .val (.int e0_), .val (.int e1_), .val (.ref wa1), .val (.ref wb1), .val (.ref b8), .val (.ref b11), .val (.int vv14), .val (.int vv15), .val (.int (0 : Int32)), .unset] [(.int (lcmpW sb p1))])) _
          refine XS.ifYes X15.here hx rfl (pc0 := 249) (pc' := 256) rfl (hb hby at_249) rfl (XT.ll_ge_t s2) (by decide) (by decide) ?_
          show Steps p.tables e below (T15.setTop (mkF m 256 #[.val (.long p1), .second, .val (.long p2), .second, .val (.int p3), .val (.int p4), .val (.int p5), .val (.long sb), .second, .val (.int la), .val (.int a0_), .val (.int a1_), .val (.int lb), .val (.int e0_), .val (.int e1_), .val (.ref wa1), .val (.ref wb1), .val (.ref b8), .val (.ref b11), .val (.int vv14), .val (.int vv15), .val (.int (0 : Int32)), .unset] [])) _
          refine XS.iconst X15.here hx rfl (hb hby at_256) ?_
          show Steps p.tables e below (T15.setTop (mkF m 257 #[.val (.long p1), .second, .val (.long p2), .second, .val (.int p3), .val (.int p4), .val (.int p5), .val (.long sb), .second, .val (.int la), .val (.int a0_), .val (.int a1_), .val (.int lb), .val (.int e0_), .val (.int e1_), .val (.ref wa1), .val (.ref wb1), .val (.ref b8), .val (.ref b11), .val (.int vv14), .val (.int vv15), .val (.int (0 : Int32)), .unset] [(.int (0 : Int32))])) _
          refine XS.goto X15.here hx rfl (pc0 := 257) (pc' := 275) rfl (hb hby at_257) (by decide) (by decide) ?_
          show Steps p.tables e below (T15.setTop (mkF m 275 #[.val (.long p1), .second, .val (.long p2), .second, .val (.int p3), .val (.int p4), .val (.int p5), .val (.long sb), .second, .val (.int la), .val (.int a0_), .val (.int a1_), .val (.int lb), .val (.int e0_), .val (.int e1_), .val (.ref wa1), .val (.ref wb1), .val (.ref b8), .val (.ref b11), .val (.int vv14), .val (.int vv15), .val (.int (0 : Int32)), .unset] [(.int (0 : Int32))])) _
          refine XS.istore X15.here hx rfl (hb hby at_275) rfl (l' := #[.val (.long p1), .second, .val (.long p2), .second, .val (.int p3), .val (.int p4), .val (.int p5), .val (.long sb), .second, .val (.int la), .val (.int a0_), .val (.int a1_), .val (.int lb), .val (.int e0_), .val (.int e1_), .val (.ref wa1), .val (.ref wb1), .val (.ref b8), .val (.ref b11), .val (.int vv14), .val (.int vv15), .val (.int (0 : Int32)), .val (.int (0 : Int32))]) rfl ?_
          show Steps p.tables e below (T15.setTop (mkF m 277 #[.val (.long p1), .second, .val (.long p2), .second, .val (.int p3), .val (.int p4), .val (.int p5), .val (.long sb), .second, .val (.int la), .val (.int a0_), .val (.int a1_), .val (.int lb), .val (.int e0_), .val (.int e1_), .val (.ref wa1), .val (.ref wb1), .val (.ref b8), .val (.ref b11), .val (.int vv14), .val (.int vv15), .val (.int (0 : Int32)), .val (.int (0 : Int32))] [])) _
          refine XS.iload X15.here hx rfl (hb hby at_277) rfl ?_
          show Steps p.tables e below (T15.setTop (mkF m 279 #[.val (.long p1), .second, .val (.long p2), .second, .val (.int p3), .val (.int p4), .val (.int p5), .val (.long sb), .second, .val (.int la), .val (.int a0_), .val (.int a1_), .val (.int lb), .val (.int e0_), .val (.int e1_), .val (.ref wa1), .val (.ref wb1), .val (.ref b8), .val (.ref b11), .val (.int vv14), .val (.int vv15), .val (.int (0 : Int32)), .val (.int (0 : Int32))] [(.int vv14)])) _
          refine XS.iload X15.here hx rfl (hb hby at_279) rfl ?_
          show Steps p.tables e below (T15.setTop (mkF m 281 #[.val (.long p1), .second, .val (.long p2), .second, .val (.int p3), .val (.int p4), .val (.int p5), .val (.long sb), .second, .val (.int la), .val (.int a0_), .val (.int a1_), .val (.int lb), .val (.int e0_), .val (.int e1_), .val (.ref wa1), .val (.ref wb1), .val (.ref b8), .val (.ref b11), .val (.int vv14), .val (.int vv15), .val (.int (0 : Int32)), .val (.int (0 : Int32))] [(.int (0 : Int32)), (.int vv14)])) _
          refine XS.icmpNo X15.here hx rfl (hb hby at_281) rfl (teq (cq14_1 (fun z => z.elim (fun z => s1 z.2) (fun z => se z.1)))).2 ?_
          show Steps p.tables e below (T15.setTop (mkF m 284 #[.val (.long p1), .second, .val (.long p2), .second, .val (.int p3), .val (.int p4), .val (.int p5), .val (.long sb), .second, .val (.int la), .val (.int a0_), .val (.int a1_), .val (.int lb), .val (.int e0_), .val (.int e1_), .val (.ref wa1), .val (.ref wb1), .val (.ref b8), .val (.ref b11), .val (.int vv14), .val (.int vv15), .val (.int (0 : Int32)), .val (.int (0 : Int32))] [])) _
          refine XS.iload X15.here hx rfl (hb hby at_284) rfl ?_
          show Steps p.tables e below (T15.setTop (mkF m 286 #[.val (.long p1), .second, .val (.long p2), .second, .val (.int p3), .val (.int p4), .val (.int p5), .val (.long sb), .second, .val (.int la), .val (.int a0_), .val (.int a1_), .val (.int lb), .val (.int e0_), .val (.int e1_), .val (.ref wa1), .val (.ref wb1), .val (.ref b8), .val (.ref b11), .val (.int vv14), .val (.int vv15), .val (.int (0 : Int32)), .val (.int (0 : Int32))] [(.int vv15)])) _
          refine XS.iload X15.here hx rfl (hb hby at_286) rfl ?_
          show Steps p.tables e below (T15.setTop (mkF m 288 #[.val (.long p1), .second, .val (.long p2), .second, .val (.int p3), .val (.int p4), .val (.int p5), .val (.long sb), .second, .val (.int la), .val (.int a0_), .val (.int a1_), .val (.int lb), .val (.int e0_), .val (.int e1_), .val (.ref wa1), .val (.ref wb1), .val (.ref b8), .val (.ref b11), .val (.int vv14), .val (.int vv15), .val (.int (0 : Int32)), .val (.int (0 : Int32))] [(.int (0 : Int32)), (.int vv15)])) _
          refine XS.icmpNo X15.here hx rfl (hb hby at_288) rfl (teq (cq15_1 (fun z => z.elim (fun z => s2 z.2) (fun z => (fun z => se z.symm) z.1)))).2 ?_
          show Steps p.tables e below (T15.setTop (mkF m 291 #[.val (.long p1), .second, .val (.long p2), .second, .val (.int p3), .val (.int p4), .val (.int p5), .val (.long sb), .second, .val (.int la), .val (.int a0_), .val (.int a1_), .val (.int lb), .val (.int e0_), .val (.int e1_), .val (.ref wa1), .val (.ref wb1), .val (.ref b8), .val (.ref b11), .val (.int vv14), .val (.int vv15), .val (.int (0 : Int32)), .val (.int (0 : Int32))] [])) _
          refine XS.iconst X15.here hx rfl (hb hby at_291) ?_
          show Steps p.tables e below (T15.setTop (mkF m 292 #[.val (.long p1), .second, .val (.long p2), .second, .val (.int p3), .val (.int p4), .val (.int p5), .val (.long sb), .second, .val (.int la), .val (.int a0_), .val (.int a1_), .val (.int lb), .val (.int e0_), .val (.int e1_), .val (.ref wa1), .val (.ref wb1), .val (.ref b8), .val (.ref b11), .val (.int vv14), .val (.int vv15), .val (.int (0 : Int32)), .val (.int (0 : Int32))] [(.int (1 : Int32))])) _
          refine XS.goto X15.here hx rfl (pc0 := 292) (pc' := 296) rfl (hb hby at_292) (by decide) (by decide) ?_
          show Steps p.tables e below (T15.setTop (mkF m 296 #[.val (.long p1), .second, .val (.long p2), .second, .val (.int p3), .val (.int p4), .val (.int p5), .val (.long sb), .second, .val (.int la), .val (.int a0_), .val (.int a1_), .val (.int lb), .val (.int e0_), .val (.int e1_), .val (.ref wa1), .val (.ref wb1), .val (.ref b8), .val (.ref b11), .val (.int vv14), .val (.int vv15), .val (.int (0 : Int32)), .val (.int (0 : Int32))] [(.int (1 : Int32))])) _
          exact k
        obtain ⟨fs, hr, hrun, hended, hEnd⟩ := X15.leaveW hS (by rw [Kq15]; exact hk) (v := some (.int (1 : Int32))) (fun h => by rw [Bd.returns] at h; cases h)
        refine ⟨_, _, retN X15 hx (t := .boolean) Bd.returns (by simp) (hb hby at_296) hr, hfin _ _ ⟨hrun, hended, _, _, rfl, ?_, hEnd.1, hEnd.2.1, hEnd.2.2.1, hEnd.2.2.2.mono (by decide) (by decide)⟩⟩
        show Q0 Z p1 p2 p3 p4 p5 wR wW zc h0 n0 _ T15.heap _
        rw [Kq15]
        exact ⟨rfl, N⟩
set_option maxRecDepth 65536 in
set_option maxHeartbeats 40000000 in
theorem comes_1 {Post : Tables → Env → Array Value → State → Outcome → State → Prop} (hpost : ∀ tb e args s v u, (limb_1_1.after args s (.returned v) u = true ∧ limb_1_2.after args s (.returned v) u = true ∧ True) → ReturnedEndW s (.returned v) u (Jvm.fieldLocs frame_1_writes args s ++ Jvm.arrayLocs frame_1_arrays args s ++ Jvm.staticLocs frame_1_statics s) 32 1152 → Post tb e args s (.returned v) u) :
    ArmFor flags0 classFile x code maxLocals ret World_1 tables_1 room_1 Calls_1 rest_1 Pre_1 Post := by
  intro l hfl _ _ p e ha hc hk s m args below hf hA hF happ hP
  obtain ⟨hcalls, hrest, hpre⟩ := hP
  obtain ⟨-, -, -, hnamed, -, -, -, hat⟩ := (Spec.applies_iff hf).mp happ
  obtain ⟨hg, hn⟩ := and_e (Cond.before_iff.mp (show (Jvm.Cond.and given_1 narrow_1).before args s = true from hpre))
  obtain ⟨gc, gr0⟩ := and_e hg
  obtain ⟨gi0, gr1⟩ := and_e gr0
  obtain ⟨gi1, gr2⟩ := and_e gr1
  obtain ⟨gi2, gr3⟩ := and_e gr2
  obtain ⟨gi3, gr4⟩ := and_e gr3
  have gi4 := gr4
  obtain ⟨w0, w1, w2, w3, w4, rfl⟩ : ∃ w0 w1 w2 w3 w4 : Value, args = #[w0, w1, w2, w3, w4] := by
    have hs : args.size = 5 := by simpa [Cond.value, given_1] using gc
    obtain ⟨L⟩ := args
    match L, hs with
    | [w0, w1, w2, w3, w4], _ => exact ⟨w0, w1, w2, w3, w4, rfl⟩
  have hw := fun d (hd : d ∈ tables_1) => atoms_spec (ws := Jvm.Cond.code x code maxLocals ret :: tables_1) hat d (List.mem_cons_of_mem _ hd)
  have hfit : Fit s := fun {y c} hc i hi => by
    obtain ⟨ha, rfl⟩ := Array.getElem?_eq_some_iff.mp hc
    have q := List.all_eq_true.mp ((Array.all_eq_true_iff_forall_mem.mp hF) _ (Array.getElem_mem ha)) i (List.mem_range.mpr hi)
    simpa [Array.getElem?_eq_getElem hi] using q
  obtain ⟨i0, ei0⟩ := isL_v gi0
  obtain rfl : w0 = (.long i0) := Option.some.inj ei0
  obtain ⟨i1, ei1⟩ := isL_v gi1
  obtain rfl : w1 = (.long i1) := Option.some.inj ei1
  obtain ⟨i2, ei2⟩ := is_v gi2
  obtain rfl : w2 = (.int i2) := Option.some.inj ei2
  obtain ⟨i3, ei3⟩ := is_v gi3
  obtain rfl : w3 = (.int i3) := Option.some.inj ei3
  obtain ⟨i4, ei4⟩ := is_v gi4
  obtain rfl : w4 = (.int i4) := Option.some.inj ei4
  obtain ⟨hsets, hown0⟩ := atoms_of _ (rest_1_c_eq ▸ (show rest_1_c.before _ s = true from hrest))
  obtain ⟨nn1, nn2⟩ := and_e hn
  obtain ⟨w0, ev0⟩ := exa_v nn1
  have S_0 := Sta.start ev0 (Or.inr ⟨(hw _ (List.mem_of_getElem? (i := 1) rfl)), (hw _ (List.mem_of_getElem? (i := 2) rfl))⟩)
  have E_0 := Exa.start ev0 nn1
  obtain ⟨w1, ev1⟩ := exa_v nn2
  have S_1 := Sta.start ev1 (Or.inr ⟨(hw _ (List.mem_of_getElem? (i := 1) rfl)), (hw _ (List.mem_of_getElem? (i := 53) rfl))⟩)
  have E_1 := Exa.start ev1 nn2
  obtain ⟨zc, ezc⟩ := is_v (Cond.before_iff.mp (hsets _ (List.mem_of_getElem? (i := 1) rfl)))
  have S_C := Sta.start ezc (Or.inl (hsets _ (List.mem_of_getElem? (i := 0) rfl)))
  have hcs : ¬ zc = (0 : Int32) := by
    have q := not_v (Cond.before_iff.mp (hsets _ (List.mem_of_getElem? (i := 2) rfl)))
    have r := gotF (Jvm.Cond.eq_ints ezc (Term.int_eval 0)) q
    exact r
  have hcH : Jvm.Lit.constHeld s "java/lang/String" 7 := hcalls.1 ("java/lang/String", 7) (by decide)
  have hcw : Jvm.Lit.compactW.before _ s = true := (hsets _ (List.mem_of_getElem? (i := 2) rfl))
  obtain ⟨n, o, h1, h2, h3, _, L, rfl, ⟨rfl, N⟩, hq⟩ := rm0 l s _ hw tables_1 i0 i1 i2 i3 i4 w0 w1 zc s.heap s.heap.size (Old.start s) S_0 S_1 S_C hcs hcH hcw p e ha hc hk s m _ below hf ((Spec.applies_iff_loose hf).mp happ).1 ⟨rfl, State.Warmed39.refl s, rfl, Or.inl IB.start⟩ trivial
  refine ⟨n, _, h1, h2, h3, hpost _ _ _ _ _ _ ⟨Cond.after_iff.mpr rfl, Cond.after_iff.mpr (eq_i res_at (Term.int_eval (1)) rfl), trivial⟩ ⟨hq.1, hq.2.1, hq.2.2.1, (hq.2.2.2.sift fun y hy => Or.inr (N y hy)).mono (by decide) (by decide)⟩⟩
theorem main_1_1 : Claimed_1_1 := comes_1 fun _ _ _ _ _ _ h hF => ⟨h.1, hF⟩
theorem main_1_2 : Claimed_1_2 := comes_1 fun _ _ _ _ _ _ h hF => ⟨h.2.1, hF⟩
end Jvm.Pilot.@@N@@
namespace Jvm.Pilot.@@N@@
open Jvm Jvm.ClassFile Sem Op Lib Jvm.Free Jvm.Stand Jvm.Pilot.@@N@@.Jvm.D
/-! MADE BY PROGRAM (witnessworld.py) out of the Statement's table words and the real class files: 24 classes; the members and pool entries that the words name. The judged class is class 1, her method 1. -/
namespace start1
open Jvm.ClassFile
def u (s : String) : CpInfo := .utf8 (stringToUtf16 s)
/-- a pool by its gaps: so many unusable entries, then the entry; so many at the end -/
def gap : Nat → List CpInfo → List CpInfo
  | 0, r => r
  | n + 1, r => .unusable :: gap n r
def poolList (es : List (Nat × CpInfo)) (last : Nat) : List CpInfo := es.foldr (fun e r => gap e.1 (e.2 :: r)) (gap last [])
def pool (es : List (Nat × CpInfo)) (last : Nat) : Array CpInfo := ⟨poolList es last⟩
def fileOf (pool : Array CpInfo) (this : Nat) (attrs : Array Attribute := #[]) (ms : Array MethodInfo := #[]) (fl : Nat := 33) (sup : Nat := 0) (ifs : Array Nat := #[]) (fds : Array FieldInfo := #[]) : ClassFile where
  minorVersion := 0
  majorVersion := 65
  constantPool := pool
  accessFlags := fl
  thisClass := this
  superClass := sup
  interfaces := ifs
  fields := fds
  methods := ms
  attributes := attrs
def plain (name : String) (sup : Option ClassId) : Class where
  name := name
  kind := .ordinary
  loader := none
  accessFlags := 33
  super := sup
  interfaces := #[]
  cf := none
  fields := #[]
  methods := #[]
  instanceTypes := #[]
  staticTypes := #[]
  resolved := #[]
  callSites := []
  init := .initialized
  statics := none
  mirror := none

def pool0 : Array CpInfo := pool [(5, u "<init>"), (0, u "()V"), (1, .class_ 10), (1, u "java/lang/Object")] 113

def k0c0 : Code := { maxStack := 0, maxLocals := 1, code := object_method_1_code, exceptionTable := #[], attributes := #[] }
def k0m0 : Method := { name := "<init>", desc := "()V", sig := { parameters := [], returnType := none }, accessFlags := 1, code := some k0c0 }
/-- java/lang/Object -/
def k0 : Class := { plain "java/lang/Object" none with
  accessFlags := 33
  interfaces := #[]
  cf := some (fileOf pool0 8 #[] #[{ accessFlags := 1, nameIndex := 5, descriptorIndex := 6, attributes := #[] }] 33 0 #[] #[])
  fields := #[]
  methods := #[k0m0]
  instanceTypes := #[]
  staticTypes := #[]
  resolved := Array.replicate 124 none
  statics := none }

def pool1 : Array CpInfo := pool [(2, .class_ 4), (1, u "java/lang/Object"), (0, u "<init>"), (0, u "()V"), (0, .fieldref 8 9), (0, .class_ 10), (0, .nameAndType 11 12), (0, u "com/example/lockline/lockline/Contender$Kind"), (0, u "WRITE"), (0, u "Lcom/example/lockline/lockline/Contender$Kind;"), (0, .fieldref 8 14), (0, .nameAndType 15 12), (0, u "READ"), (0, .class_ 17), (0, u "com/example/lockline/lockline/Contender"), (0, .methodref 19 20), (0, .class_ 21), (0, .nameAndType 22 23), (0, u "com/example/lockline/lockline/ContenderIsAheadOfPinLaw"), (0, u "mk"), (0, u "(ICC)Ljava/lang/String;"), (0, .methodref 16 25), (0, .nameAndType 5 26), (0, u "(Ljava/lang/String;Lcom/example/lockline/lockline/Contender$Kind;J)V"), (0, .methodref 16 28), (0, .nameAndType 29 30), (0, u "isAheadOf"), (0, u "(Lcom/example/lockline/lockline/Contender;)Z"), (0, .methodref 19 32), (0, .nameAndType 33 34), (0, u "less"), (0, u "(ICCICC)Z"), (0, .class_ 36), (0, u "java/lang/String"), (0, .methodref 35 38), (0, .nameAndType 5 39), (0, u "([C)V"), (0, .methodref 35 41), (0, .nameAndType 42 43), (0, u "valueOf"), (0, u "(C)Ljava/lang/String;"), (2, u "law"), (0, u "(JJIII)Z")] 5

def k1m0 : Method := { name := "<init>", desc := "()V", sig := { parameters := [], returnType := none }, accessFlags := 1, code := none }
def k1c1 : Code := { maxStack := 6, maxLocals := 23, code := code, exceptionTable := #[], attributes := #[] }
def k1m1 : Method := { name := "law", desc := "(JJIII)Z", sig := { parameters := [.long, .long, .int, .int, .int], returnType := some .boolean }, accessFlags := 9, code := some k1c1 }
def k1c2 : Code := { maxStack := 6, maxLocals := 3, code := method_3_code, exceptionTable := #[], attributes := #[] }
def k1m2 : Method := { name := "mk", desc := "(ICC)Ljava/lang/String;", sig := { parameters := [.int, .char, .char], returnType := some (.object "java/lang/String") }, accessFlags := 10, code := some k1c2 }
def k1c3 : Code := { maxStack := 2, maxLocals := 6, code := method_4_code, exceptionTable := #[], attributes := #[] }
def k1m3 : Method := { name := "less", desc := "(ICCICC)Z", sig := { parameters := [.int, .char, .char, .int, .char, .char], returnType := some .boolean }, accessFlags := 10, code := some k1c3 }
/-- com/example/lockline/lockline/ContenderIsAheadOfPinLaw -/
def k1 : Class := { plain "com/example/lockline/lockline/ContenderIsAheadOfPinLaw" (some 0) with
  accessFlags := 49
  interfaces := #[]
  cf := some (fileOf pool1 19 #[] #[{ accessFlags := 1, nameIndex := 5, descriptorIndex := 6, attributes := #[] }, { accessFlags := 9, nameIndex := 46, descriptorIndex := 47, attributes := #[] }, { accessFlags := 10, nameIndex := 22, descriptorIndex := 23, attributes := #[] }, { accessFlags := 10, nameIndex := 33, descriptorIndex := 34, attributes := #[] }] 49 2 #[] #[])
  fields := #[]
  methods := #[k1m0, k1m1, k1m2, k1m3]
  instanceTypes := #[]
  staticTypes := #[]
  resolved := Array.replicate 53 none
  statics := none }

def pool2 : Array CpInfo := pool [(1, .class_ 2), (0, u "java/lang/constant/Constable"), (0, .class_ 4), (0, u "java/lang/Object")] 6

/-- java/lang/constant/Constable -/
def k2 : Class := { plain "java/lang/constant/Constable" (some 0) with
  accessFlags := 1537
  interfaces := #[]
  cf := some (fileOf pool2 1 #[] #[] 1537 3 #[] #[])
  fields := #[]
  methods := #[]
  instanceTypes := #[]
  staticTypes := #[]
  resolved := Array.replicate 11 none
  statics := none }

def pool3 : Array CpInfo := pool [(1, .class_ 2), (0, u "java/lang/Comparable"), (0, .class_ 4), (0, u "java/lang/Object")] 7

/-- java/lang/Comparable -/
def k3 : Class := { plain "java/lang/Comparable" (some 0) with
  accessFlags := 1537
  interfaces := #[]
  cf := some (fileOf pool3 1 #[] #[] 1537 3 #[] #[])
  fields := #[]
  methods := #[]
  instanceTypes := #[]
  staticTypes := #[]
  resolved := Array.replicate 12 none
  statics := none }

def pool4 : Array CpInfo := pool [(1, .class_ 2), (0, u "java/io/Serializable"), (0, .class_ 4), (0, u "java/lang/Object")] 2

/-- java/io/Serializable -/
def k4 : Class := { plain "java/io/Serializable" (some 0) with
  accessFlags := 1537
  interfaces := #[]
  cf := some (fileOf pool4 1 #[] #[] 1537 3 #[] #[])
  fields := #[]
  methods := #[]
  instanceTypes := #[]
  staticTypes := #[]
  resolved := Array.replicate 7 none
  statics := none }

def pool5 : Array CpInfo := pool [(2, .class_ 4), (1, u "java/lang/Enum"), (0, u "name"), (0, u "Ljava/lang/String;"), (2, u "ordinal"), (0, u "I"), (1, .class_ 14), (1, u "java/lang/Object"), (4, u "hash"), (86, .class_ 108), (1, u "java/lang/Enum$EnumDesc"), (2, .class_ 112), (0, u "java/lang/constant/Constable"), (0, .class_ 114), (0, u "java/lang/Comparable"), (0, .class_ 116), (0, u "java/io/Serializable")] 87

/-- java/lang/Enum -/
def k5 : Class := { plain "java/lang/Enum" (some 0) with
  accessFlags := 1057
  interfaces := #[2, 3, 4]
  cf := some (fileOf pool5 2 #[.nestMembers #[106]] #[] 1057 12 #[111, 113, 115] #[{ accessFlags := 18, nameIndex := 5, descriptorIndex := 6, attributes := #[] }, { accessFlags := 18, nameIndex := 9, descriptorIndex := 10, attributes := #[] }, { accessFlags := 2, nameIndex := 19, descriptorIndex := 10, attributes := #[] }])
  fields := #[{ name := "name", type := (.object "java/lang/String"), accessFlags := 18, slot := 0, constantValue := 0 }, { name := "ordinal", type := .int, accessFlags := 18, slot := 1, constantValue := 0 }, { name := "hash", type := .int, accessFlags := 2, slot := 2, constantValue := 0 }]
  methods := #[]
  instanceTypes := #[(.object "java/lang/String"), .int, .int]
  staticTypes := #[]
  resolved := Array.replicate 204 none
  statics := none }

def pool6 : Array CpInfo := pool [(1, .class_ 2), (0, u "com/example/lockline/lockline/Contender$Kind"), (2, u "READ"), (0, u "Lcom/example/lockline/lockline/Contender$Kind;"), (2, u "WRITE"), (2, u "$VALUES"), (0, u "[Lcom/example/lockline/lockline/Contender$Kind;"), (6, .class_ 22), (1, u "java/lang/Enum"), (71, .class_ 95), (0, u "com/example/lockline/lockline/Contender")] 16

/-- com/example/lockline/lockline/Contender$Kind -/
def k6 : Class := { plain "com/example/lockline/lockline/Contender$Kind" (some 5) with
  accessFlags := 16432
  interfaces := #[]
  cf := some (fileOf pool6 1 #[.nestHost 94] #[] 16432 20 #[] #[{ accessFlags := 16409, nameIndex := 5, descriptorIndex := 6, attributes := #[] }, { accessFlags := 16409, nameIndex := 9, descriptorIndex := 6, attributes := #[] }, { accessFlags := 4122, nameIndex := 12, descriptorIndex := 13, attributes := #[] }])
  fields := #[{ name := "READ", type := (.object "com/example/lockline/lockline/Contender$Kind"), accessFlags := 16409, slot := 0, constantValue := 0 }, { name := "WRITE", type := (.object "com/example/lockline/lockline/Contender$Kind"), accessFlags := 16409, slot := 1, constantValue := 0 }, { name := "$VALUES", type := (.array (.object "com/example/lockline/lockline/Contender$Kind")), accessFlags := 4122, slot := 2, constantValue := 0 }]
  methods := #[]
  instanceTypes := #[(.object "java/lang/String"), .int, .int]
  staticTypes := #[(.object "com/example/lockline/lockline/Contender$Kind"), (.object "com/example/lockline/lockline/Contender$Kind"), (.array (.object "com/example/lockline/lockline/Contender$Kind"))]
  resolved := Array.replicate 112 none
  statics := some 0 }

def pool7 : Array CpInfo := pool [(1, .methodref 2 3), (0, .class_ 4), (0, .nameAndType 5 6), (0, u "java/lang/Object"), (0, u "<init>"), (0, u "()V"), (0, .class_ 8), (0, u "java/lang/Record")] 13

def k7c0 : Code := { maxStack := 1, maxLocals := 1, code := jdk_30_method_1_code, exceptionTable := #[], attributes := #[] }
def k7m0 : Method := { name := "<init>", desc := "()V", sig := { parameters := [], returnType := none }, accessFlags := 4, code := some k7c0 }
/-- java/lang/Record -/
def k7 : Class := { plain "java/lang/Record" (some 0) with
  accessFlags := 1057
  interfaces := #[]
  cf := some (fileOf pool7 7 #[] #[{ accessFlags := 4, nameIndex := 5, descriptorIndex := 6, attributes := #[] }] 1057 2 #[] #[])
  fields := #[]
  methods := #[k7m0]
  instanceTypes := #[]
  staticTypes := #[]
  resolved := Array.replicate 22 none
  statics := none }

def pool8 : Array CpInfo := pool [(3, .methodref 4 5), (0, .class_ 6), (0, .nameAndType 7 8), (0, u "java/lang/Record"), (0, u "<init>"), (0, u "()V"), (0, .fieldref 10 11), (0, .class_ 12), (0, .nameAndType 13 14), (0, u "com/example/lockline/lockline/Contender"), (0, u "name"), (0, u "Ljava/lang/String;"), (0, .fieldref 10 16), (0, .nameAndType 17 18), (0, u "kind"), (0, u "Lcom/example/lockline/lockline/Contender$Kind;"), (0, .fieldref 10 20), (0, .nameAndType 21 22), (0, u "sequence"), (0, u "J"), (2, u "NAME"), (0, u "Ljava/util/regex/Pattern;"), (23, .class_ 52), (1, u "com/example/lockline/lockline/Contender$Kind"), (12, .methodref 66 67), (0, .class_ 68), (0, .nameAndType 69 70), (0, u "java/lang/String"), (0, u "compareTo"), (0, u "(Ljava/lang/String;)I"), (21, u "isAheadOf"), (0, u "(Lcom/example/lockline/lockline/Contender;)Z"), (12, u "(Ljava/lang/String;Lcom/example/lockline/lockline/Contender$Kind;J)V"), (18, u "LAST_SEQUENCE")] 58

def k8c0 : Code := { maxStack := 3, maxLocals := 5, code := prog_1_method_1_code, exceptionTable := #[], attributes := #[] }
def k8m0 : Method := { name := "<init>", desc := "(Ljava/lang/String;Lcom/example/lockline/lockline/Contender$Kind;J)V", sig := { parameters := [(.object "java/lang/String"), (.object "com/example/lockline/lockline/Contender$Kind"), .long], returnType := none }, accessFlags := 0, code := some k8c0 }
def k8c1 : Code := { maxStack := 4, maxLocals := 2, code := prog_1_method_4_code, exceptionTable := #[], attributes := #[] }
def k8m1 : Method := { name := "isAheadOf", desc := "(Lcom/example/lockline/lockline/Contender;)Z", sig := { parameters := [(.object "com/example/lockline/lockline/Contender")], returnType := some .boolean }, accessFlags := 0, code := some k8c1 }
/-- com/example/lockline/lockline/Contender -/
def k8 : Class := { plain "com/example/lockline/lockline/Contender" (some 7) with
  accessFlags := 48
  interfaces := #[]
  cf := some (fileOf pool8 10 #[.nestMembers #[50]] #[{ accessFlags := 0, nameIndex := 7, descriptorIndex := 106, attributes := #[] }, { accessFlags := 0, nameIndex := 92, descriptorIndex := 93, attributes := #[] }] 48 4 #[] #[{ accessFlags := 18, nameIndex := 13, descriptorIndex := 14, attributes := #[] }, { accessFlags := 18, nameIndex := 17, descriptorIndex := 18, attributes := #[] }, { accessFlags := 18, nameIndex := 21, descriptorIndex := 22, attributes := #[] }, { accessFlags := 24, nameIndex := 125, descriptorIndex := 22, attributes := #[] }, { accessFlags := 26, nameIndex := 25, descriptorIndex := 26, attributes := #[] }])
  fields := #[{ name := "name", type := (.object "java/lang/String"), accessFlags := 18, slot := 0, constantValue := 0 }, { name := "kind", type := (.object "com/example/lockline/lockline/Contender$Kind"), accessFlags := 18, slot := 1, constantValue := 0 }, { name := "sequence", type := .long, accessFlags := 18, slot := 2, constantValue := 0 }, { name := "LAST_SEQUENCE", type := .long, accessFlags := 24, slot := 0, constantValue := 0 }, { name := "NAME", type := (.object "java/util/regex/Pattern"), accessFlags := 26, slot := 1, constantValue := 0 }]
  methods := #[k8m0, k8m1]
  instanceTypes := #[(.object "java/lang/String"), (.object "com/example/lockline/lockline/Contender$Kind"), .long]
  staticTypes := #[.long, (.object "java/util/regex/Pattern")]
  resolved := Array.replicate 184 none
  statics := none }

def pool9 : Array CpInfo := pool [(2, .class_ 4), (1, u "java/lang/CharSequence"), (42, .class_ 48), (0, u "java/lang/CharSequence$1CodePointIterator"), (10, .class_ 60), (0, u "java/lang/CharSequence$1CharIterator"), (5, .class_ 67), (0, u "java/lang/Object")] 63

/-- java/lang/CharSequence -/
def k9 : Class := { plain "java/lang/CharSequence" (some 0) with
  accessFlags := 1537
  interfaces := #[]
  cf := some (fileOf pool9 2 #[.nestMembers #[47, 59]] #[] 1537 66 #[] #[])
  fields := #[]
  methods := #[]
  instanceTypes := #[]
  staticTypes := #[]
  resolved := Array.replicate 131 none
  statics := none }

def pool10 : Array CpInfo := pool [(1, .class_ 2), (0, u "java/lang/constant/ConstantDesc"), (0, .class_ 4), (0, u "java/lang/Object")] 32

/-- java/lang/constant/ConstantDesc -/
def k10 : Class := { plain "java/lang/constant/ConstantDesc" (some 0) with
  accessFlags := 1537
  interfaces := #[]
  cf := some (fileOf pool10 1 #[] #[] 1537 3 #[] #[])
  fields := #[]
  methods := #[]
  instanceTypes := #[]
  staticTypes := #[]
  resolved := Array.replicate 37 none
  statics := none }

def pool11 : Array CpInfo := pool [(1, .methodref 2 3), (0, .class_ 4), (0, .nameAndType 5 6), (0, u "java/lang/Object"), (0, u "<init>"), (0, u "()V"), (0, .string 8), (0, u ""), (0, .fieldref 10 11), (0, .class_ 12), (0, .nameAndType 13 14), (0, u "java/lang/String"), (0, u "value"), (0, u "[B"), (0, .fieldref 10 16), (0, .nameAndType 17 18), (0, u "coder"), (0, u "B"), (2, u "hash"), (0, u "I"), (2, u "hashIsZero"), (0, u "Z"), (0, .methodref 10 28), (0, .nameAndType 5 29), (0, u "([CIILjava/lang/Void;)V"), (8, .fieldref 10 39), (0, .nameAndType 40 26), (0, u "COMPACT_STRINGS"), (1, .class_ 44), (1, u "java/lang/StringUTF16"), (0, u "compress"), (1, .methodref 42 48), (0, .nameAndType 49 50), (0, u "coderFromArrayLen"), (0, u "([BI)B"), (2, u "toBytes"), (53, .class_ 109), (1, u "java/lang/StringLatin1"), (67, .methodref 42 178), (0, .nameAndType 45 179), (0, u "([CII)[B"), (29, .methodref 10 210), (0, .nameAndType 5 211), (0, u "([BB)V"), (123, .methodref 10 336), (0, .nameAndType 17 337), (0, u "()B"), (31, u "(C)Z"), (205, .class_ 576), (0, u "java/lang/CharSequence"), (9, .methodref 107 587), (0, .nameAndType 588 589), (0, u "compareTo"), (0, u "([B[B)I"), (9, u "CASE_INSENSITIVE_ORDER"), (0, u "Ljava/util/Comparator;"), (112, u "(Ljava/lang/String;)I"), (68, u "valueOf"), (0, u "(C)Ljava/lang/String;"), (226, u "([C)V"), (4, .methodref 107 1016), (0, .nameAndType 1017 369), (0, u "canEncode"), (0, .methodref 107 1019), (0, .nameAndType 53 1020), (0, u "(C)[B"), (80, u "serialPersistentFields"), (0, u "[Ljava/io/ObjectStreamField;"), (0, .class_ 1104), (0, u "java/lang/String$CaseInsensitiveComparator"), (1, .class_ 1107), (0, u "java/io/Serializable"), (0, .class_ 1109), (0, u "java/lang/Comparable"), (0, .class_ 1111), (0, u "java/lang/constant/Constable"), (0, .class_ 1113), (0, u "java/lang/constant/ConstantDesc"), (2, u "serialVersionUID"), (0, u "J"), (3, u "REPL"), (0, u "C"), (2, u "LATIN1"), (1, u "UTF16")] 323

def k11m0 : Method := { name := "<init>", desc := "()V", sig := { parameters := [], returnType := none }, accessFlags := 1, code := none }
def k11c1 : Code := { maxStack := 5, maxLocals := 2, code := jdk_42_method_3_code, exceptionTable := #[], attributes := #[] }
def k11m1 : Method := { name := "<init>", desc := "([C)V", sig := { parameters := [(.array .char)], returnType := none }, accessFlags := 1, code := some k11c1 }
def k11c2 : Code := { maxStack := 2, maxLocals := 5, code := jdk_42_method_71_code, exceptionTable := #[], attributes := #[] }
def k11m2 : Method := { name := "compareTo", desc := "(Ljava/lang/String;)I", sig := { parameters := [(.object "java/lang/String")], returnType := some .int }, accessFlags := 1, code := some k11c2 }
def k11c3 : Code := { maxStack := 4, maxLocals := 1, code := jdk_42_method_139_code, exceptionTable := #[], attributes := #[] }
def k11m3 : Method := { name := "valueOf", desc := "(C)Ljava/lang/String;", sig := { parameters := [.char], returnType := some (.object "java/lang/String") }, accessFlags := 9, code := some k11c3 }
def k11c4 : Code := { maxStack := 4, maxLocals := 6, code := jdk_42_method_149_code, exceptionTable := #[], attributes := #[] }
def k11m4 : Method := { name := "<init>", desc := "([CIILjava/lang/Void;)V", sig := { parameters := [(.array .char), .int, .int, (.object "java/lang/Void")], returnType := none }, accessFlags := 2, code := some k11c4 }
def k11c5 : Code := { maxStack := 2, maxLocals := 3, code := jdk_42_method_151_code, exceptionTable := #[], attributes := #[] }
def k11m5 : Method := { name := "<init>", desc := "([BB)V", sig := { parameters := [(.array .byte), .byte], returnType := none }, accessFlags := 0, code := some k11c5 }
def k11c6 : Code := { maxStack := 1, maxLocals := 1, code := jdk_42_method_152_code, exceptionTable := #[], attributes := #[] }
def k11m6 : Method := { name := "coder", desc := "()B", sig := { parameters := [], returnType := some .byte }, accessFlags := 0, code := some k11c6 }
/-- java/lang/String -/
def k11 : Class := { plain "java/lang/String" (some 0) with
  accessFlags := 49
  interfaces := #[4, 3, 9, 2, 10]
  cf := some (fileOf pool11 10 #[.nestMembers #[1103]] #[{ accessFlags := 1, nameIndex := 5, descriptorIndex := 6, attributes := #[] }, { accessFlags := 1, nameIndex := 5, descriptorIndex := 1010, attributes := #[] }, { accessFlags := 1, nameIndex := 588, descriptorIndex := 713, attributes := #[] }, { accessFlags := 9, nameIndex := 782, descriptorIndex := 783, attributes := #[] }, { accessFlags := 2, nameIndex := 5, descriptorIndex := 29, attributes := #[] }, { accessFlags := 0, nameIndex := 5, descriptorIndex := 211, attributes := #[] }, { accessFlags := 0, nameIndex := 17, descriptorIndex := 337, attributes := #[] }] 49 2 #[1106, 1108, 575, 1110, 1112] #[{ accessFlags := 18, nameIndex := 13, descriptorIndex := 14, attributes := #[] }, { accessFlags := 18, nameIndex := 17, descriptorIndex := 18, attributes := #[] }, { accessFlags := 2, nameIndex := 21, descriptorIndex := 22, attributes := #[] }, { accessFlags := 2, nameIndex := 25, descriptorIndex := 26, attributes := #[] }, { accessFlags := 26, nameIndex := 1116, descriptorIndex := 1117, attributes := #[] }, { accessFlags := 24, nameIndex := 40, descriptorIndex := 26, attributes := #[] }, { accessFlags := 26, nameIndex := 1101, descriptorIndex := 1102, attributes := #[] }, { accessFlags := 26, nameIndex := 1121, descriptorIndex := 1122, attributes := #[] }, { accessFlags := 25, nameIndex := 599, descriptorIndex := 600, attributes := #[] }, { accessFlags := 24, nameIndex := 1125, descriptorIndex := 18, attributes := #[] }, { accessFlags := 24, nameIndex := 1127, descriptorIndex := 18, attributes := #[] }])
  fields := #[{ name := "value", type := (.array .byte), accessFlags := 18, slot := 0, constantValue := 0 }, { name := "coder", type := .byte, accessFlags := 18, slot := 1, constantValue := 0 }, { name := "hash", type := .int, accessFlags := 2, slot := 2, constantValue := 0 }, { name := "hashIsZero", type := .boolean, accessFlags := 2, slot := 3, constantValue := 0 }, { name := "serialVersionUID", type := .long, accessFlags := 26, slot := 0, constantValue := 0 }, { name := "COMPACT_STRINGS", type := .boolean, accessFlags := 24, slot := 1, constantValue := 0 }, { name := "serialPersistentFields", type := (.array (.object "java/io/ObjectStreamField")), accessFlags := 26, slot := 2, constantValue := 0 }, { name := "REPL", type := .char, accessFlags := 26, slot := 3, constantValue := 0 }, { name := "CASE_INSENSITIVE_ORDER", type := (.object "java/util/Comparator"), accessFlags := 25, slot := 4, constantValue := 0 }, { name := "LATIN1", type := .byte, accessFlags := 24, slot := 5, constantValue := 0 }, { name := "UTF16", type := .byte, accessFlags := 24, slot := 6, constantValue := 0 }]
  methods := #[k11m0, k11m1, k11m2, k11m3, k11m4, k11m5, k11m6]
  instanceTypes := #[(.array .byte), .byte, .int, .boolean]
  staticTypes := #[.long, .boolean, (.array (.object "java/io/ObjectStreamField")), .char, (.object "java/util/Comparator"), .byte, .byte]
  resolved := Array.replicate 1451 none
  statics := some 1 }

def pool12 : Array CpInfo := pool [(6, .class_ 8), (1, u "java/lang/Object"), (0, u "<init>"), (0, u "()V"), (1, .class_ 14), (1, u "java/lang/StringUTF16"), (31, u "$assertionsDisabled"), (0, u "Z"), (13, u "HI_BYTE_SHIFT"), (0, u "I"), (2, u "LO_BYTE_SHIFT"), (49, .methodref 12 116), (0, .nameAndType 117 118), (0, u "compress"), (0, u "([CI[BII)I"), (3, u "([CII)[B"), (138, u "coderFromArrayLen"), (0, u "([BI)B"), (106, .class_ 371), (1, u "java/lang/StringUTF16$LinesSpliterator"), (58, u "MAX_LENGTH"), (196, .class_ 628), (0, u "java/lang/StringUTF16$CodePointsSpliterator"), (0, .class_ 630), (0, u "java/lang/StringUTF16$CharsSpliterator")] 4

def k12m0 : Method := { name := "<init>", desc := "()V", sig := { parameters := [], returnType := none }, accessFlags := 0, code := none }
def k12c1 : Code := { maxStack := 2, maxLocals := 2, code := jdk_52_method_15_code, exceptionTable := #[], attributes := #[] }
def k12m1 : Method := { name := "coderFromArrayLen", desc := "([BI)B", sig := { parameters := [(.array .byte), .int], returnType := some .byte }, accessFlags := 8, code := some k12c1 }
def k12c2 : Code := { maxStack := 5, maxLocals := 6, code := jdk_52_method_16_code, exceptionTable := #[], attributes := #[] }
def k12m2 : Method := { name := "compress", desc := "([CII)[B", sig := { parameters := [(.array .char), .int, .int], returnType := some (.array .byte) }, accessFlags := 9, code := some k12c2 }
def k12c3 : Code := { maxStack := 3, maxLocals := 7, code := jdk_52_method_21_code, exceptionTable := #[], attributes := #[] }
def k12m3 : Method := { name := "compress", desc := "([CI[BII)I", sig := { parameters := [(.array .char), .int, (.array .byte), .int, .int], returnType := some .int }, accessFlags := 9, code := some k12c3 }
/-- java/lang/StringUTF16 -/
def k12 : Class := { plain "java/lang/StringUTF16" (some 0) with
  accessFlags := 48
  interfaces := #[]
  cf := some (fileOf pool12 12 #[.nestMembers #[627, 629, 369]] #[{ accessFlags := 0, nameIndex := 9, descriptorIndex := 10, attributes := #[] }, { accessFlags := 8, nameIndex := 261, descriptorIndex := 262, attributes := #[] }, { accessFlags := 9, nameIndex := 117, descriptorIndex := 122, attributes := #[] }, { accessFlags := 9, nameIndex := 117, descriptorIndex := 118, attributes := #[] }] 48 6 #[] #[{ accessFlags := 26, nameIndex := 61, descriptorIndex := 62, attributes := #[] }, { accessFlags := 26, nameIndex := 65, descriptorIndex := 62, attributes := #[] }, { accessFlags := 24, nameIndex := 430, descriptorIndex := 62, attributes := #[] }, { accessFlags := 4120, nameIndex := 46, descriptorIndex := 47, attributes := #[] }])
  fields := #[{ name := "HI_BYTE_SHIFT", type := .int, accessFlags := 26, slot := 0, constantValue := 0 }, { name := "LO_BYTE_SHIFT", type := .int, accessFlags := 26, slot := 1, constantValue := 0 }, { name := "MAX_LENGTH", type := .int, accessFlags := 24, slot := 2, constantValue := 0 }, { name := "$assertionsDisabled", type := .boolean, accessFlags := 4120, slot := 3, constantValue := 0 }]
  methods := #[k12m0, k12m1, k12m2, k12m3]
  instanceTypes := #[]
  staticTypes := #[.int, .int, .int, .boolean]
  resolved := Array.replicate 635 none
  statics := none }

def pool13 : Array CpInfo := pool [(4, .class_ 6), (1, u "java/lang/Object"), (0, u "<init>"), (0, u "()V"), (5, .class_ 16), (1, u "java/lang/StringLatin1"), (17, .methodref 14 35), (0, .nameAndType 36 37), (0, u "compareTo"), (0, u "([B[BII)I"), (0, .methodref 39 40), (0, .class_ 41), (0, .nameAndType 42 43), (0, u "java/lang/Math"), (0, u "min"), (0, u "(II)I"), (0, .methodref 45 46), (0, .class_ 47), (0, .nameAndType 48 49), (0, u "jdk/internal/util/ArraysSupport"), (0, u "mismatch"), (0, u "([B[BI)I"), (0, .methodref 14 51), (0, .nameAndType 52 53), (0, u "getChar"), (0, u "([BI)C"), (36, u "canEncode"), (14, u "(C)Z"), (15, u "$assertionsDisabled"), (0, u "Z"), (98, .class_ 223), (1, u "java/lang/StringLatin1$LinesSpliterator"), (63, u "([B[B)I"), (92, u "toBytes"), (1, u "(C)[B"), (7, .class_ 391), (0, u "java/lang/StringLatin1$CharsSpliterator")] 3

def k13m0 : Method := { name := "<init>", desc := "()V", sig := { parameters := [], returnType := none }, accessFlags := 0, code := none }
def k13c1 : Code := { maxStack := 2, maxLocals := 1, code := jdk_43_method_3_code, exceptionTable := #[], attributes := #[] }
def k13m1 : Method := { name := "canEncode", desc := "(C)Z", sig := { parameters := [.char], returnType := some .boolean }, accessFlags := 9, code := some k13c1 }
def k13c2 : Code := { maxStack := 4, maxLocals := 4, code := jdk_43_method_14_code, exceptionTable := #[], attributes := #[] }
def k13m2 : Method := { name := "compareTo", desc := "([B[B)I", sig := { parameters := [(.array .byte), (.array .byte)], returnType := some .int }, accessFlags := 9, code := some k13c2 }
def k13c3 : Code := { maxStack := 3, maxLocals := 6, code := jdk_43_method_15_code, exceptionTable := #[], attributes := #[] }
def k13m3 : Method := { name := "compareTo", desc := "([B[BII)I", sig := { parameters := [(.array .byte), (.array .byte), .int, .int], returnType := some .int }, accessFlags := 9, code := some k13c3 }
def k13c4 : Code := { maxStack := 2, maxLocals := 2, code := jdk_43_method_44_code, exceptionTable := #[], attributes := #[] }
def k13m4 : Method := { name := "getChar", desc := "([BI)C", sig := { parameters := [(.array .byte), .int], returnType := some .char }, accessFlags := 9, code := some k13c4 }
def k13c5 : Code := { maxStack := 4, maxLocals := 1, code := jdk_43_method_46_code, exceptionTable := #[], attributes := #[] }
def k13m5 : Method := { name := "toBytes", desc := "(C)[B", sig := { parameters := [.char], returnType := some (.array .byte) }, accessFlags := 9, code := some k13c5 }
/-- java/lang/StringLatin1 -/
def k13 : Class := { plain "java/lang/StringLatin1" (some 0) with
  accessFlags := 48
  interfaces := #[]
  cf := some (fileOf pool13 14 #[.nestMembers #[390, 221]] #[{ accessFlags := 0, nameIndex := 7, descriptorIndex := 8, attributes := #[] }, { accessFlags := 9, nameIndex := 90, descriptorIndex := 105, attributes := #[] }, { accessFlags := 9, nameIndex := 36, descriptorIndex := 287, attributes := #[] }, { accessFlags := 9, nameIndex := 36, descriptorIndex := 37, attributes := #[] }, { accessFlags := 9, nameIndex := 52, descriptorIndex := 53, attributes := #[] }, { accessFlags := 9, nameIndex := 380, descriptorIndex := 382, attributes := #[] }] 48 4 #[] #[{ accessFlags := 4120, nameIndex := 121, descriptorIndex := 122, attributes := #[] }])
  fields := #[{ name := "$assertionsDisabled", type := .boolean, accessFlags := 4120, slot := 0, constantValue := 0 }]
  methods := #[k13m0, k13m1, k13m2, k13m3, k13m4, k13m5]
  instanceTypes := #[]
  staticTypes := #[.boolean]
  resolved := Array.replicate 395 none
  statics := none }

def pool14 : Array CpInfo := pool [(1, .class_ 2), (0, u "java/lang/Math"), (1, .class_ 6), (1, u "java/lang/Object"), (0, u "<init>"), (0, u "()V"), (89, .class_ 100), (1, u "java/lang/Math$RandomNumberGeneratorHolder"), (71, u "negativeZeroFloatBits"), (0, u "J"), (2, u "negativeZeroDoubleBits"), (24, u "min"), (43, u "$assertionsDisabled"), (0, u "Z"), (88, u "(II)I"), (2, u "twoToTheDoubleScaleDown"), (0, u "D"), (4, u "twoToTheDoubleScaleUp"), (9, u "E"), (3, u "PI"), (2, u "TAU"), (2, u "DEGREES_TO_RADIANS"), (0, u "RADIANS_TO_DEGREES")] 94

def k14m0 : Method := { name := "<init>", desc := "()V", sig := { parameters := [], returnType := none }, accessFlags := 2, code := none }
def k14c1 : Code := { maxStack := 2, maxLocals := 2, code := jdk_29_method_69_code, exceptionTable := #[], attributes := #[] }
def k14m1 : Method := { name := "min", desc := "(II)I", sig := { parameters := [.int, .int], returnType := some .int }, accessFlags := 9, code := some k14c1 }
/-- java/lang/Math -/
def k14 : Class := { plain "java/lang/Math" (some 0) with
  accessFlags := 49
  interfaces := #[]
  cf := some (fileOf pool14 1 #[.nestMembers #[98]] #[{ accessFlags := 2, nameIndex := 7, descriptorIndex := 8, attributes := #[] }, { accessFlags := 9, nameIndex := 201, descriptorIndex := 335, attributes := #[] }] 49 4 #[] #[{ accessFlags := 25, nameIndex := 354, descriptorIndex := 339, attributes := #[] }, { accessFlags := 25, nameIndex := 358, descriptorIndex := 339, attributes := #[] }, { accessFlags := 25, nameIndex := 361, descriptorIndex := 339, attributes := #[] }, { accessFlags := 26, nameIndex := 364, descriptorIndex := 339, attributes := #[] }, { accessFlags := 26, nameIndex := 365, descriptorIndex := 339, attributes := #[] }, { accessFlags := 26, nameIndex := 172, descriptorIndex := 173, attributes := #[] }, { accessFlags := 26, nameIndex := 176, descriptorIndex := 173, attributes := #[] }, { accessFlags := 8, nameIndex := 344, descriptorIndex := 339, attributes := #[] }, { accessFlags := 8, nameIndex := 338, descriptorIndex := 339, attributes := #[] }, { accessFlags := 4120, nameIndex := 245, descriptorIndex := 246, attributes := #[] }])
  fields := #[{ name := "E", type := .double, accessFlags := 25, slot := 0, constantValue := 0 }, { name := "PI", type := .double, accessFlags := 25, slot := 1, constantValue := 0 }, { name := "TAU", type := .double, accessFlags := 25, slot := 2, constantValue := 0 }, { name := "DEGREES_TO_RADIANS", type := .double, accessFlags := 26, slot := 3, constantValue := 0 }, { name := "RADIANS_TO_DEGREES", type := .double, accessFlags := 26, slot := 4, constantValue := 0 }, { name := "negativeZeroFloatBits", type := .long, accessFlags := 26, slot := 5, constantValue := 0 }, { name := "negativeZeroDoubleBits", type := .long, accessFlags := 26, slot := 6, constantValue := 0 }, { name := "twoToTheDoubleScaleUp", type := .double, accessFlags := 8, slot := 7, constantValue := 0 }, { name := "twoToTheDoubleScaleDown", type := .double, accessFlags := 8, slot := 8, constantValue := 0 }, { name := "$assertionsDisabled", type := .boolean, accessFlags := 4120, slot := 9, constantValue := 0 }]
  methods := #[k14m0, k14m1]
  instanceTypes := #[]
  staticTypes := #[.double, .double, .double, .double, .double, .long, .long, .double, .double, .boolean]
  resolved := Array.replicate 460 none
  statics := none }

def pool15 : Array CpInfo := pool [(9, u "<init>"), (6, .class_ 18), (1, u "java/lang/Object"), (0, u "()V"), (1, .class_ 23), (1, u "jdk/internal/util/ArraysSupport"), (0, u "LOG2_ARRAY_LONG_INDEX_SCALE"), (0, u "I"), (2, u "U"), (0, u "Ljdk/internal/misc/Unsafe;"), (8, u "BIG_ENDIAN"), (0, u "Z"), (8, u "LOG2_BYTE_BIT_SIZE"), (4, u "LOG2_ARRAY_INT_INDEX_SCALE"), (54, u "JLA"), (0, u "Ljdk/internal/access/JavaLangAccess;"), (11, u "LOG2_ARRAY_BOOLEAN_INDEX_SCALE"), (9, u "LOG2_ARRAY_BYTE_INDEX_SCALE"), (5, u "LOG2_ARRAY_CHAR_INDEX_SCALE"), (5, u "LOG2_ARRAY_SHORT_INDEX_SCALE"), (5, u "mismatch"), (12, u "LOG2_ARRAY_FLOAT_INDEX_SCALE"), (24, u "LOG2_ARRAY_DOUBLE_INDEX_SCALE"), (89, u "T_BOOLEAN"), (2, u "T_CHAR"), (1, u "T_FLOAT"), (1, u "T_DOUBLE"), (1, u "T_BYTE"), (1, u "T_SHORT"), (1, u "T_INT"), (1, u "T_LONG"), (1, u "SOFT_MAX_ARRAY_LENGTH"), (41, u "([B[BI)I")] 41

def k15m0 : Method := { name := "<init>", desc := "()V", sig := { parameters := [], returnType := none }, accessFlags := 2, code := none }
def k15c1 : Code := { maxStack := 8, maxLocals := 4, code := jdk_48_method_13_code, exceptionTable := #[], attributes := #[] }
def k15m1 : Method := { name := "mismatch", desc := "([B[BI)I", sig := { parameters := [(.array .byte), (.array .byte), .int], returnType := some .int }, accessFlags := 9, code := some k15c1 }
/-- jdk/internal/util/ArraysSupport -/
def k15 : Class := { plain "jdk/internal/util/ArraysSupport" (some 0) with
  accessFlags := 33
  interfaces := #[]
  cf := some (fileOf pool15 21 #[] #[{ accessFlags := 2, nameIndex := 9, descriptorIndex := 19, attributes := #[] }, { accessFlags := 9, nameIndex := 149, descriptorIndex := 336, attributes := #[] }] 33 16 #[] #[{ accessFlags := 24, nameIndex := 28, descriptorIndex := 29, attributes := #[] }, { accessFlags := 26, nameIndex := 38, descriptorIndex := 39, attributes := #[] }, { accessFlags := 25, nameIndex := 121, descriptorIndex := 25, attributes := #[] }, { accessFlags := 25, nameIndex := 131, descriptorIndex := 25, attributes := #[] }, { accessFlags := 25, nameIndex := 137, descriptorIndex := 25, attributes := #[] }, { accessFlags := 25, nameIndex := 143, descriptorIndex := 25, attributes := #[] }, { accessFlags := 25, nameIndex := 53, descriptorIndex := 25, attributes := #[] }, { accessFlags := 25, nameIndex := 24, descriptorIndex := 25, attributes := #[] }, { accessFlags := 25, nameIndex := 162, descriptorIndex := 25, attributes := #[] }, { accessFlags := 25, nameIndex := 187, descriptorIndex := 25, attributes := #[] }, { accessFlags := 26, nameIndex := 48, descriptorIndex := 25, attributes := #[] }, { accessFlags := 25, nameIndex := 277, descriptorIndex := 25, attributes := #[] }, { accessFlags := 25, nameIndex := 280, descriptorIndex := 25, attributes := #[] }, { accessFlags := 25, nameIndex := 282, descriptorIndex := 25, attributes := #[] }, { accessFlags := 25, nameIndex := 284, descriptorIndex := 25, attributes := #[] }, { accessFlags := 25, nameIndex := 286, descriptorIndex := 25, attributes := #[] }, { accessFlags := 25, nameIndex := 288, descriptorIndex := 25, attributes := #[] }, { accessFlags := 25, nameIndex := 290, descriptorIndex := 25, attributes := #[] }, { accessFlags := 25, nameIndex := 292, descriptorIndex := 25, attributes := #[] }, { accessFlags := 26, nameIndex := 108, descriptorIndex := 109, attributes := #[] }, { accessFlags := 25, nameIndex := 294, descriptorIndex := 25, attributes := #[] }])
  fields := #[{ name := "U", type := (.object "jdk/internal/misc/Unsafe"), accessFlags := 24, slot := 0, constantValue := 0 }, { name := "BIG_ENDIAN", type := .boolean, accessFlags := 26, slot := 1, constantValue := 0 }, { name := "LOG2_ARRAY_BOOLEAN_INDEX_SCALE", type := .int, accessFlags := 25, slot := 2, constantValue := 0 }, { name := "LOG2_ARRAY_BYTE_INDEX_SCALE", type := .int, accessFlags := 25, slot := 3, constantValue := 0 }, { name := "LOG2_ARRAY_CHAR_INDEX_SCALE", type := .int, accessFlags := 25, slot := 4, constantValue := 0 }, { name := "LOG2_ARRAY_SHORT_INDEX_SCALE", type := .int, accessFlags := 25, slot := 5, constantValue := 0 }, { name := "LOG2_ARRAY_INT_INDEX_SCALE", type := .int, accessFlags := 25, slot := 6, constantValue := 0 }, { name := "LOG2_ARRAY_LONG_INDEX_SCALE", type := .int, accessFlags := 25, slot := 7, constantValue := 0 }, { name := "LOG2_ARRAY_FLOAT_INDEX_SCALE", type := .int, accessFlags := 25, slot := 8, constantValue := 0 }, { name := "LOG2_ARRAY_DOUBLE_INDEX_SCALE", type := .int, accessFlags := 25, slot := 9, constantValue := 0 }, { name := "LOG2_BYTE_BIT_SIZE", type := .int, accessFlags := 26, slot := 10, constantValue := 0 }, { name := "T_BOOLEAN", type := .int, accessFlags := 25, slot := 11, constantValue := 0 }, { name := "T_CHAR", type := .int, accessFlags := 25, slot := 12, constantValue := 0 }, { name := "T_FLOAT", type := .int, accessFlags := 25, slot := 13, constantValue := 0 }, { name := "T_DOUBLE", type := .int, accessFlags := 25, slot := 14, constantValue := 0 }, { name := "T_BYTE", type := .int, accessFlags := 25, slot := 15, constantValue := 0 }, { name := "T_SHORT", type := .int, accessFlags := 25, slot := 16, constantValue := 0 }, { name := "T_INT", type := .int, accessFlags := 25, slot := 17, constantValue := 0 }, { name := "T_LONG", type := .int, accessFlags := 25, slot := 18, constantValue := 0 }, { name := "JLA", type := (.object "jdk/internal/access/JavaLangAccess"), accessFlags := 26, slot := 19, constantValue := 0 }, { name := "SOFT_MAX_ARRAY_LENGTH", type := .int, accessFlags := 25, slot := 20, constantValue := 0 }]
  methods := #[k15m0, k15m1]
  instanceTypes := #[]
  staticTypes := #[(.object "jdk/internal/misc/Unsafe"), .boolean, .int, .int, .int, .int, .int, .int, .int, .int, .int, .int, .int, .int, .int, .int, .int, .int, .int, (.object "jdk/internal/access/JavaLangAccess"), .int]
  resolved := Array.replicate 378 none
  statics := none }

def pool16 : Array CpInfo := pool [(2, .class_ 4), (1, u "java/lang/Object"), (0, u "<init>"), (0, u "()V"), (17, .class_ 26), (1, u "jdk/internal/util/Preconditions"), (28, .class_ 56), (0, u "jdk/internal/util/Preconditions$4"), (57, .class_ 115), (0, u "jdk/internal/util/Preconditions$1"), (7, u "SIOOBE_FORMATTER"), (0, u "Ljava/util/function/BiFunction;"), (0, .class_ 126), (0, u "jdk/internal/util/Preconditions$2"), (3, u "AIOOBE_FORMATTER"), (0, .class_ 132), (0, u "jdk/internal/util/Preconditions$3"), (3, u "IOOBE_FORMATTER")] 57

def k16m0 : Method := { name := "<init>", desc := "()V", sig := { parameters := [], returnType := none }, accessFlags := 1, code := none }
/-- jdk/internal/util/Preconditions -/
def k16 : Class := { plain "jdk/internal/util/Preconditions" (some 0) with
  accessFlags := 33
  interfaces := #[]
  cf := some (fileOf pool16 24 #[.nestMembers #[55, 131, 125, 114]] #[{ accessFlags := 1, nameIndex := 5, descriptorIndex := 6, attributes := #[] }] 33 2 #[] #[{ accessFlags := 25, nameIndex := 123, descriptorIndex := 124, attributes := #[] }, { accessFlags := 25, nameIndex := 130, descriptorIndex := 124, attributes := #[] }, { accessFlags := 25, nameIndex := 136, descriptorIndex := 124, attributes := #[] }])
  fields := #[{ name := "SIOOBE_FORMATTER", type := (.object "java/util/function/BiFunction"), accessFlags := 25, slot := 0, constantValue := 0 }, { name := "AIOOBE_FORMATTER", type := (.object "java/util/function/BiFunction"), accessFlags := 25, slot := 1, constantValue := 0 }, { name := "IOOBE_FORMATTER", type := (.object "java/util/function/BiFunction"), accessFlags := 25, slot := 2, constantValue := 0 }]
  methods := #[k16m0]
  instanceTypes := #[]
  staticTypes := #[(.object "java/util/function/BiFunction"), (.object "java/util/function/BiFunction"), (.object "java/util/function/BiFunction")]
  resolved := Array.replicate 194 none
  statics := some 2 }

def pool17 : Array CpInfo := pool [(1, u "java/lang/Cloneable"), (0, .class_ 1), (0, u "java/lang/Object"), (0, .class_ 3)] 3

/-- java/lang/Cloneable -/
def k17 : Class := { plain "java/lang/Cloneable" (some 0) with
  accessFlags := 1537
  interfaces := #[]
  cf := some (fileOf pool17 2 #[] #[] 1537 4 #[] #[])
  fields := #[]
  methods := #[]
  instanceTypes := #[]
  staticTypes := #[]
  resolved := Array.replicate 8 none
  statics := none }

/-- the primitive byte -/
def k18 : Class := { plain "byte" none with kind := .primitive 'B', accessFlags := 0x411 }
/-- [B -/
def k19 : Class := { plain "[B" (some 0) with kind := .array 18 .byte, interfaces := #[17, 4], accessFlags := 1041 }

/-- the primitive char -/
def k20 : Class := { plain "char" none with kind := .primitive 'C', accessFlags := 0x411 }
/-- [C -/
def k21 : Class := { plain "[C" (some 0) with kind := .array 20 .char, interfaces := #[17, 4], accessFlags := 1041 }

/-- the primitive int -/
def k22 : Class := { plain "int" none with kind := .primitive 'I', accessFlags := 0x411 }
/-- [I -/
def k23 : Class := { plain "[I" (some 0) with kind := .array 22 .int, interfaces := #[17, 4], accessFlags := 1041 }

def heap : Heap := #[{ cls := 6, slots := #[.ref 3, .ref 4, .null], vm := .statics 6 },
  { cls := 11, slots := #[.long 0, .int 1, .null, .int 0, .null, .int 0, .int 0], vm := .statics 11 },
  { cls := 16, slots := #[.null, .null, .null], vm := .statics 16 },
  { cls := 6, slots := #[.null, .int 0, .int 0], vm := .none },
  { cls := 6, slots := #[.null, .int 1, .int 0], vm := .none }]
def classes : Array Class := #[k0, k1, k2, k3, k4, k5, k6, k7, k8, k9, k10, k11, k12, k13, k14, k15, k16, k17, k18, k19, k20, k21, k22, k23]
def interned : List (Array UInt16 × Addr) := []
def slotsUsed : Nat := 19
def theMethod : MethodId := ⟨1, 1⟩
def args0 : Array Value := #[.long 3, .long 3, .int 5, .int 2, .int 1]
def aboutOver (below : List Frame) : State where
  vm := { classes := classes, interned := interned.toArray }
  heap := heap
  slotsUsed := slotsUsed
  threads := #[{ frames := .invoking theMethod args0 :: below }]
def below0 : List Frame := [.native { method := ⟨0, 0⟩, args := #[] }]
def about1 : State := aboutOver below0
def p0 : Program := .bare "" "" ""
def e0 : Env := launch0.env 0 0 0
theorem w_frames : about1.frames = Frame.invoking theMethod args0 :: below0 := rfl
set_option maxRecDepth 65536 in
theorem w_args : argsFit about1.vm theMethod args0 = true := by decide +kernel
set_option maxRecDepth 65536 in
theorem w_heap : heapFits about1 = true := by decide +kernel
set_option maxRecDepth 65536 in
theorem w_runnable : about1.curStatus? = some .runnable := by decide +kernel
set_option maxRecDepth 65536 in
theorem w_alone : about1.alone = true := by decide +kernel
set_option maxRecDepth 65536 in
theorem w_named : about1.methodNamed? x = some theMethod := by decide +kernel
set_option maxRecDepth 65536 in
theorem w_hears : about1.hears theMethod below0 = true := by decide +kernel
set_option maxRecDepth 65536 in
theorem w_ripe : about1.ripe theMethod args0 below0 = true := by decide +kernel
theorem w_running : about1.status = .running := rfl
set_option maxRecDepth 65536 in
theorem w_room : about1.hasRoom e0.platform room_1 = true :=
  launch0.hasRoom_least _ room_1 (by decide +kernel) (by decide +kernel) (by decide +kernel) (by decide +kernel) (by decide +kernel) (by decide +kernel)
theorem allAtoms_all (ts : List Jvm.Cond) (a : Array Jvm.Value) (st : Jvm.State) : (allAtoms ts).before a st = ts.all (fun c => c.before a st) := by
  induction ts with
  | nil => rfl
  | cons c t ih =>
    show (Jvm.Cond.and c (allAtoms t)).before a st = _
    rw [Jvm.Cond.before_and, ih, List.all_cons]
def words1 : List Jvm.Cond := Jvm.Cond.code x code maxLocals ret :: tables_1
/-- a 'code' word, met by the world's own term for the bytes: nothing is compared byte by byte -/
theorem code_word {y : MethodName} {bytes : ByteArray} {mx : Nat} {rt : Option FieldType} {a : Array Value} {s : State} {m : MethodId} {meth : Method} {c : Code} (h1 : s.methodNamed? y = some m) (h2 : s.vm.method? m = some meth) (h3 : meth.code = some c) (h4 : c.code = bytes)
    (h5 : (c.maxLocals == mx && c.exceptionTable.isEmpty && decide (c.maxStack ≤ mostOperands) && decide (meth.sig.returnType = rt) && !meth.locks && decide (parseMethodDescriptor y.desc = some meth.sig)) = true) : (Jvm.Cond.code y bytes mx rt).before a s = true := by
  simp only [Bool.and_eq_true, beq_iff_eq, Bool.not_eq_true', decide_eq_true_eq] at h5
  obtain ⟨⟨⟨⟨⟨g1, g2⟩, g3⟩, g4⟩, g5⟩, g6⟩ := h5
  simp [Cond.before, Cond.holds, Cond.value, h1, h2, h3, h4, g1, g2, g3, g4, g5, g6]
def isCode : Jvm.Cond → Bool
  | .code _ _ _ _ => true
  | _ => false
theorem all_split {L : List Jvm.Cond} {P : Jvm.Cond → Bool} (h1 : L.all (fun c => isCode c || P c) = true) (h2 : ∀ c ∈ L.filter isCode, P c = true) : L.all P = true := by
  refine List.all_eq_true.mpr fun c hc => ?_
  have h := List.all_eq_true.mp h1 c hc
  rcases Bool.eq_false_or_eq_true (isCode c) with hi | hi
  · exact h2 c (List.mem_filter.mpr ⟨hc, hi⟩)
  · simpa [hi] using h
set_option maxRecDepth 65536 in
theorem w_c0 : (Jvm.Cond.code x code maxLocals ret).before args0 about1 = true := code_word (m := ⟨1, 1⟩) (meth := k1m1) (c := k1c1) (by decide +kernel) rfl rfl rfl (by decide +kernel)
set_option maxRecDepth 65536 in
theorem w_c1 : (Jvm.Cond.code ({ cls := "com/example/lockline/lockline/ContenderIsAheadOfPinLaw", name := "mk", desc := "(ICC)Ljava/lang/String;" } : Jvm.MethodName) method_3_code (3 : Nat) (Option.some (Jvm.ClassFile.FieldType.object "java/lang/String"))).before args0 about1 = true := code_word (m := ⟨1, 2⟩) (meth := k1m2) (c := k1c2) (by decide +kernel) rfl rfl rfl (by decide +kernel)
set_option maxRecDepth 65536 in
theorem w_c2 : (Jvm.Cond.code ({ cls := "java/lang/String", name := "<init>", desc := "([C)V" } : Jvm.MethodName) jdk_42_method_3_code (2 : Nat) (Option.none : Option Jvm.ClassFile.FieldType)).before args0 about1 = true := code_word (m := ⟨11, 1⟩) (meth := k11m1) (c := k11c1) (by decide +kernel) rfl rfl rfl (by decide +kernel)
set_option maxRecDepth 65536 in
theorem w_c3 : (Jvm.Cond.code ({ cls := "java/lang/String", name := "<init>", desc := "([CIILjava/lang/Void;)V" } : Jvm.MethodName) jdk_42_method_149_code (6 : Nat) (Option.none : Option Jvm.ClassFile.FieldType)).before args0 about1 = true := code_word (m := ⟨11, 4⟩) (meth := k11m4) (c := k11c4) (by decide +kernel) rfl rfl rfl (by decide +kernel)
set_option maxRecDepth 65536 in
theorem w_c4 : (Jvm.Cond.code ({ cls := "java/lang/Object", name := "<init>", desc := "()V" } : Jvm.MethodName) object_method_1_code (1 : Nat) (Option.none : Option Jvm.ClassFile.FieldType)).before args0 about1 = true := code_word (m := ⟨0, 0⟩) (meth := k0m0) (c := k0c0) (by decide +kernel) rfl rfl rfl (by decide +kernel)
set_option maxRecDepth 65536 in
theorem w_c5 : (Jvm.Cond.code ({ cls := "com/example/lockline/lockline/Contender", name := "<init>", desc := "(Ljava/lang/String;Lcom/example/lockline/lockline/Contender$Kind;J)V" } : Jvm.MethodName) prog_1_method_1_code (5 : Nat) (Option.none : Option Jvm.ClassFile.FieldType)).before args0 about1 = true := code_word (m := ⟨8, 0⟩) (meth := k8m0) (c := k8c0) (by decide +kernel) rfl rfl rfl (by decide +kernel)
set_option maxRecDepth 65536 in
theorem w_c6 : (Jvm.Cond.code ({ cls := "java/lang/Record", name := "<init>", desc := "()V" } : Jvm.MethodName) jdk_30_method_1_code (1 : Nat) (Option.none : Option Jvm.ClassFile.FieldType)).before args0 about1 = true := code_word (m := ⟨7, 0⟩) (meth := k7m0) (c := k7c0) (by decide +kernel) rfl rfl rfl (by decide +kernel)
set_option maxRecDepth 65536 in
theorem w_c7 : (Jvm.Cond.code ({ cls := "com/example/lockline/lockline/Contender", name := "isAheadOf", desc := "(Lcom/example/lockline/lockline/Contender;)Z" } : Jvm.MethodName) prog_1_method_4_code (2 : Nat) (Option.some Jvm.ClassFile.FieldType.boolean)).before args0 about1 = true := code_word (m := ⟨8, 1⟩) (meth := k8m1) (c := k8c1) (by decide +kernel) rfl rfl rfl (by decide +kernel)
set_option maxRecDepth 65536 in
theorem w_c8 : (Jvm.Cond.code ({ cls := "java/lang/StringUTF16", name := "compress", desc := "([CII)[B" } : Jvm.MethodName) jdk_52_method_16_code (6 : Nat) (Option.some (Jvm.ClassFile.FieldType.array Jvm.ClassFile.FieldType.byte))).before args0 about1 = true := code_word (m := ⟨12, 2⟩) (meth := k12m2) (c := k12c2) (by decide +kernel) rfl rfl rfl (by decide +kernel)
set_option maxRecDepth 65536 in
theorem w_c9 : (Jvm.Cond.code ({ cls := "java/lang/StringUTF16", name := "compress", desc := "([CI[BII)I" } : Jvm.MethodName) jdk_52_method_21_code (7 : Nat) (Option.some Jvm.ClassFile.FieldType.int)).before args0 about1 = true := code_word (m := ⟨12, 3⟩) (meth := k12m3) (c := k12c3) (by decide +kernel) rfl rfl rfl (by decide +kernel)
set_option maxRecDepth 65536 in
theorem w_c10 : (Jvm.Cond.code ({ cls := "java/lang/StringUTF16", name := "coderFromArrayLen", desc := "([BI)B" } : Jvm.MethodName) jdk_52_method_15_code (2 : Nat) (Option.some Jvm.ClassFile.FieldType.byte)).before args0 about1 = true := code_word (m := ⟨12, 1⟩) (meth := k12m1) (c := k12c1) (by decide +kernel) rfl rfl rfl (by decide +kernel)
set_option maxRecDepth 65536 in
theorem w_c11 : (Jvm.Cond.code ({ cls := "java/lang/String", name := "valueOf", desc := "(C)Ljava/lang/String;" } : Jvm.MethodName) jdk_42_method_139_code (1 : Nat) (Option.some (Jvm.ClassFile.FieldType.object "java/lang/String"))).before args0 about1 = true := code_word (m := ⟨11, 3⟩) (meth := k11m3) (c := k11c3) (by decide +kernel) rfl rfl rfl (by decide +kernel)
set_option maxRecDepth 65536 in
theorem w_c12 : (Jvm.Cond.code ({ cls := "java/lang/StringLatin1", name := "canEncode", desc := "(C)Z" } : Jvm.MethodName) jdk_43_method_3_code (1 : Nat) (Option.some Jvm.ClassFile.FieldType.boolean)).before args0 about1 = true := code_word (m := ⟨13, 1⟩) (meth := k13m1) (c := k13c1) (by decide +kernel) rfl rfl rfl (by decide +kernel)
set_option maxRecDepth 65536 in
theorem w_c13 : (Jvm.Cond.code ({ cls := "java/lang/StringLatin1", name := "toBytes", desc := "(C)[B" } : Jvm.MethodName) jdk_43_method_46_code (1 : Nat) (Option.some (Jvm.ClassFile.FieldType.array Jvm.ClassFile.FieldType.byte))).before args0 about1 = true := code_word (m := ⟨13, 5⟩) (meth := k13m5) (c := k13c5) (by decide +kernel) rfl rfl rfl (by decide +kernel)
set_option maxRecDepth 65536 in
theorem w_c14 : (Jvm.Cond.code ({ cls := "java/lang/String", name := "<init>", desc := "([BB)V" } : Jvm.MethodName) jdk_42_method_151_code (3 : Nat) (Option.none : Option Jvm.ClassFile.FieldType)).before args0 about1 = true := code_word (m := ⟨11, 5⟩) (meth := k11m5) (c := k11c5) (by decide +kernel) rfl rfl rfl (by decide +kernel)
set_option maxRecDepth 65536 in
theorem w_c15 : (Jvm.Cond.code ({ cls := "java/lang/String", name := "compareTo", desc := "(Ljava/lang/String;)I" } : Jvm.MethodName) jdk_42_method_71_code (5 : Nat) (Option.some Jvm.ClassFile.FieldType.int)).before args0 about1 = true := code_word (m := ⟨11, 2⟩) (meth := k11m2) (c := k11c2) (by decide +kernel) rfl rfl rfl (by decide +kernel)
set_option maxRecDepth 65536 in
theorem w_c16 : (Jvm.Cond.code ({ cls := "java/lang/String", name := "coder", desc := "()B" } : Jvm.MethodName) jdk_42_method_152_code (1 : Nat) (Option.some Jvm.ClassFile.FieldType.byte)).before args0 about1 = true := code_word (m := ⟨11, 6⟩) (meth := k11m6) (c := k11c6) (by decide +kernel) rfl rfl rfl (by decide +kernel)
set_option maxRecDepth 65536 in
theorem w_c17 : (Jvm.Cond.code ({ cls := "java/lang/StringLatin1", name := "compareTo", desc := "([B[B)I" } : Jvm.MethodName) jdk_43_method_14_code (4 : Nat) (Option.some Jvm.ClassFile.FieldType.int)).before args0 about1 = true := code_word (m := ⟨13, 2⟩) (meth := k13m2) (c := k13c2) (by decide +kernel) rfl rfl rfl (by decide +kernel)
set_option maxRecDepth 65536 in
theorem w_c18 : (Jvm.Cond.code ({ cls := "java/lang/StringLatin1", name := "compareTo", desc := "([B[BII)I" } : Jvm.MethodName) jdk_43_method_15_code (6 : Nat) (Option.some Jvm.ClassFile.FieldType.int)).before args0 about1 = true := code_word (m := ⟨13, 3⟩) (meth := k13m3) (c := k13c3) (by decide +kernel) rfl rfl rfl (by decide +kernel)
set_option maxRecDepth 65536 in
theorem w_c19 : (Jvm.Cond.code ({ cls := "java/lang/Math", name := "min", desc := "(II)I" } : Jvm.MethodName) jdk_29_method_69_code (2 : Nat) (Option.some Jvm.ClassFile.FieldType.int)).before args0 about1 = true := code_word (m := ⟨14, 1⟩) (meth := k14m1) (c := k14c1) (by decide +kernel) rfl rfl rfl (by decide +kernel)
set_option maxRecDepth 65536 in
theorem w_c20 : (Jvm.Cond.code ({ cls := "jdk/internal/util/ArraysSupport", name := "mismatch", desc := "([B[BI)I" } : Jvm.MethodName) jdk_48_method_13_code (4 : Nat) (Option.some Jvm.ClassFile.FieldType.int)).before args0 about1 = true := code_word (m := ⟨15, 1⟩) (meth := k15m1) (c := k15c1) (by decide +kernel) rfl rfl rfl (by decide +kernel)
set_option maxRecDepth 65536 in
theorem w_c21 : (Jvm.Cond.code ({ cls := "java/lang/StringLatin1", name := "getChar", desc := "([BI)C" } : Jvm.MethodName) jdk_43_method_44_code (2 : Nat) (Option.some Jvm.ClassFile.FieldType.char)).before args0 about1 = true := code_word (m := ⟨13, 4⟩) (meth := k13m4) (c := k13c4) (by decide +kernel) rfl rfl rfl (by decide +kernel)
set_option maxRecDepth 65536 in
theorem w_c22 : (Jvm.Cond.code ({ cls := "com/example/lockline/lockline/ContenderIsAheadOfPinLaw", name := "less", desc := "(ICCICC)Z" } : Jvm.MethodName) method_4_code (6 : Nat) (Option.some Jvm.ClassFile.FieldType.boolean)).before args0 about1 = true := code_word (m := ⟨1, 3⟩) (meth := k1m3) (c := k1c3) (by decide +kernel) rfl rfl rfl (by decide +kernel)
def codes1 : List Jvm.Cond := [Jvm.Cond.code x code maxLocals ret, Jvm.Cond.code ({ cls := "com/example/lockline/lockline/ContenderIsAheadOfPinLaw", name := "mk", desc := "(ICC)Ljava/lang/String;" } : Jvm.MethodName) method_3_code (3 : Nat) (Option.some (Jvm.ClassFile.FieldType.object "java/lang/String")), Jvm.Cond.code ({ cls := "java/lang/String", name := "<init>", desc := "([C)V" } : Jvm.MethodName) jdk_42_method_3_code (2 : Nat) (Option.none : Option Jvm.ClassFile.FieldType), Jvm.Cond.code ({ cls := "java/lang/String", name := "<init>", desc := "([CIILjava/lang/Void;)V" } : Jvm.MethodName) jdk_42_method_149_code (6 : Nat) (Option.none : Option Jvm.ClassFile.FieldType), Jvm.Cond.code ({ cls := "java/lang/Object", name := "<init>", desc := "()V" } : Jvm.MethodName) object_method_1_code (1 : Nat) (Option.none : Option Jvm.ClassFile.FieldType), Jvm.Cond.code ({ cls := "com/example/lockline/lockline/Contender", name := "<init>", desc := "(Ljava/lang/String;Lcom/example/lockline/lockline/Contender$Kind;J)V" } : Jvm.MethodName) prog_1_method_1_code (5 : Nat) (Option.none : Option Jvm.ClassFile.FieldType), Jvm.Cond.code ({ cls := "java/lang/Record", name := "<init>", desc := "()V" } : Jvm.MethodName) jdk_30_method_1_code (1 : Nat) (Option.none : Option Jvm.ClassFile.FieldType), Jvm.Cond.code ({ cls := "com/example/lockline/lockline/Contender", name := "isAheadOf", desc := "(Lcom/example/lockline/lockline/Contender;)Z" } : Jvm.MethodName) prog_1_method_4_code (2 : Nat) (Option.some Jvm.ClassFile.FieldType.boolean), Jvm.Cond.code ({ cls := "java/lang/StringUTF16", name := "compress", desc := "([CII)[B" } : Jvm.MethodName) jdk_52_method_16_code (6 : Nat) (Option.some (Jvm.ClassFile.FieldType.array Jvm.ClassFile.FieldType.byte)), Jvm.Cond.code ({ cls := "java/lang/StringUTF16", name := "compress", desc := "([CI[BII)I" } : Jvm.MethodName) jdk_52_method_21_code (7 : Nat) (Option.some Jvm.ClassFile.FieldType.int), Jvm.Cond.code ({ cls := "java/lang/StringUTF16", name := "coderFromArrayLen", desc := "([BI)B" } : Jvm.MethodName) jdk_52_method_15_code (2 : Nat) (Option.some Jvm.ClassFile.FieldType.byte), Jvm.Cond.code ({ cls := "java/lang/String", name := "valueOf", desc := "(C)Ljava/lang/String;" } : Jvm.MethodName) jdk_42_method_139_code (1 : Nat) (Option.some (Jvm.ClassFile.FieldType.object "java/lang/String")), Jvm.Cond.code ({ cls := "java/lang/StringLatin1", name := "canEncode", desc := "(C)Z" } : Jvm.MethodName) jdk_43_method_3_code (1 : Nat) (Option.some Jvm.ClassFile.FieldType.boolean), Jvm.Cond.code ({ cls := "java/lang/StringLatin1", name := "toBytes", desc := "(C)[B" } : Jvm.MethodName) jdk_43_method_46_code (1 : Nat) (Option.some (Jvm.ClassFile.FieldType.array Jvm.ClassFile.FieldType.byte)), Jvm.Cond.code ({ cls := "java/lang/String", name := "<init>", desc := "([BB)V" } : Jvm.MethodName) jdk_42_method_151_code (3 : Nat) (Option.none : Option Jvm.ClassFile.FieldType), Jvm.Cond.code ({ cls := "java/lang/String", name := "compareTo", desc := "(Ljava/lang/String;)I" } : Jvm.MethodName) jdk_42_method_71_code (5 : Nat) (Option.some Jvm.ClassFile.FieldType.int), Jvm.Cond.code ({ cls := "java/lang/String", name := "coder", desc := "()B" } : Jvm.MethodName) jdk_42_method_152_code (1 : Nat) (Option.some Jvm.ClassFile.FieldType.byte), Jvm.Cond.code ({ cls := "java/lang/StringLatin1", name := "compareTo", desc := "([B[B)I" } : Jvm.MethodName) jdk_43_method_14_code (4 : Nat) (Option.some Jvm.ClassFile.FieldType.int), Jvm.Cond.code ({ cls := "java/lang/StringLatin1", name := "compareTo", desc := "([B[BII)I" } : Jvm.MethodName) jdk_43_method_15_code (6 : Nat) (Option.some Jvm.ClassFile.FieldType.int), Jvm.Cond.code ({ cls := "java/lang/Math", name := "min", desc := "(II)I" } : Jvm.MethodName) jdk_29_method_69_code (2 : Nat) (Option.some Jvm.ClassFile.FieldType.int), Jvm.Cond.code ({ cls := "jdk/internal/util/ArraysSupport", name := "mismatch", desc := "([B[BI)I" } : Jvm.MethodName) jdk_48_method_13_code (4 : Nat) (Option.some Jvm.ClassFile.FieldType.int), Jvm.Cond.code ({ cls := "java/lang/StringLatin1", name := "getChar", desc := "([BI)C" } : Jvm.MethodName) jdk_43_method_44_code (2 : Nat) (Option.some Jvm.ClassFile.FieldType.char), Jvm.Cond.code ({ cls := "com/example/lockline/lockline/ContenderIsAheadOfPinLaw", name := "less", desc := "(ICCICC)Z" } : Jvm.MethodName) method_4_code (6 : Nat) (Option.some Jvm.ClassFile.FieldType.boolean)]
set_option maxRecDepth 65536 in
theorem codes_eq : words1.filter isCode = codes1 := rfl
theorem w_codes : ∀ c ∈ words1.filter isCode, c.before args0 about1 = true := by
  rw [codes_eq]
  intro c hc
  simp only [codes1, List.mem_cons, List.not_mem_nil, or_false] at hc
  rcases hc with rfl | rfl | rfl | rfl | rfl | rfl | rfl | rfl | rfl | rfl | rfl | rfl | rfl | rfl | rfl | rfl | rfl | rfl | rfl | rfl | rfl | rfl | rfl
  · exact w_c0
  · exact w_c1
  · exact w_c2
  · exact w_c3
  · exact w_c4
  · exact w_c5
  · exact w_c6
  · exact w_c7
  · exact w_c8
  · exact w_c9
  · exact w_c10
  · exact w_c11
  · exact w_c12
  · exact w_c13
  · exact w_c14
  · exact w_c15
  · exact w_c16
  · exact w_c17
  · exact w_c18
  · exact w_c19
  · exact w_c20
  · exact w_c21
  · exact w_c22
set_option maxRecDepth 65536 in
theorem w_t1 : (words1.take 24).all (fun c => isCode c || c.before args0 about1) = true := by decide +kernel
set_option maxRecDepth 65536 in
theorem w_t2 : ((words1.drop 24).take 24).all (fun c => isCode c || c.before args0 about1) = true := by decide +kernel
set_option maxRecDepth 65536 in
theorem w_t3 : (((words1.drop 24).drop 24).take 24).all (fun c => isCode c || c.before args0 about1) = true := by decide +kernel
set_option maxRecDepth 65536 in
theorem w_t4 : ((((words1.drop 24).drop 24).drop 24).take 24).all (fun c => isCode c || c.before args0 about1) = true := by decide +kernel
set_option maxRecDepth 65536 in
theorem w_t5 : ((((words1.drop 24).drop 24).drop 24).drop 24).all (fun c => isCode c || c.before args0 about1) = true := by decide +kernel
theorem w_tables : (allAtoms (Jvm.Cond.code x code maxLocals ret :: tables_1)).before args0 about1 = true := by
  rw [allAtoms_all]
  show words1.all (fun c => c.before args0 about1) = true
  refine all_split ?_ w_codes
  rw [← List.take_append_drop 24 words1, List.all_append, w_t1, ← List.take_append_drop 24 (words1.drop 24), List.all_append, w_t2, ← List.take_append_drop 24 ((words1.drop 24).drop 24), List.all_append, w_t3, ← List.take_append_drop 24 (((words1.drop 24).drop 24).drop 24), List.all_append, w_t4, w_t5]
  rfl
set_option maxRecDepth 65536 in
theorem w_rest : rest_1_c.before args0 about1 = true := by decide +kernel
set_option maxRecDepth 65536 in
theorem w_case : (Jvm.Cond.and given_1 narrow_1).before args0 about1 = true := by decide +kernel
set_option maxRecDepth 65536 in
theorem w_consts : constsHeld consts_1 about1 := Jvm.Lit.constsHeldB_iff.mp (by decide +kernel)
theorem w_applies : (headSpec (Jvm.Cond.code x code maxLocals ret :: tables_1) room_1).applies x e0.platform about1 = true :=
  (Spec.applies_iff w_frames).mpr ⟨w_running, w_runnable, w_alone, w_named, w_hears, w_ripe, w_room, w_tables⟩
theorem atStart : AtStart classFile x code maxLocals ret World_1 tables_1 room_1 Calls_1 rest_1 Pre_1 launch0 p0 e0 about1 theMethod args0 below0 :=
  ⟨lists_1, trivial, launch0.admits_env _ _ _, launch0.least_env, fairChoices_fair.cas, fairChoices_fair.clock, w_frames, w_args, w_heap, w_applies, ⟨w_consts, trivial⟩, w_rest, w_case⟩
end start1
theorem witness_1 : WitnessClaimed_1 := ⟨start1.p0, start1.e0, start1.about1, start1.theMethod, start1.args0, start1.below0, start1.atStart⟩
end Jvm.Pilot.@@N@@
