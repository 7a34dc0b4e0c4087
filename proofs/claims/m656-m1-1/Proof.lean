import JvmDerived
import JvmDerived.Pilot.@@N@@Statement
import JvmDerived.Pilot.@@N@@Code
set_option linter.unusedVariables false
set_option linter.unusedSimpArgs false
namespace Jvm.RoadKit
open Sem ClassFile Op Lib Jvm.Stand Jvm.Free Jvm.LawKit
section New
variable {p : Program} {l : Launch} {e : Env} {R : Room} {s : State} {m : MethodId} {args : Array Value} {below : List Frame} {meth : Method} {c : Code} {T : State} {locs : List Loc} {cells slots : Nat}
theorem retI (X : Stand p l e R s m args below meth c T locs cells slots) (hx : p.tables.exec = Jvm.exec) {pc : Nat} {Ls : Array Slot} {z : Int32} {rest : List Value} (hret : meth.sig.returnType = some .int) (hd : decode c.code pc = .ok (.ireturn, 1)) {fs : List Frame}
    (hl : ∀ (f : JFrame) (acts : List Action), f.method = m → f.locked = none → f.entered = [] → (doReturn e (T.setTop f) acts (some (.int z))).1 = T.setFrames fs) : Steps p.tables e below (T.setTop (mkF m pc Ls (.int z :: rest))) (T.setFrames fs) := by
  have hm' : T.vm.method? m = some meth := X.method'
  have hn : narrow .int (.int z) = .int z := rfl
  show Steps p.tables e below (T.setTop { method := m, pc := pc, locals := Ls, stack := _ :: rest, locked := none }) _
  jvm_step X.here [X.here.top, hx, hd, hm', hret, hn]
  first | (intro acts; rw [hl _ acts rfl rfl rfl]) | rw [hl _ _ rfl rfl rfl]
  exact Steps.refl _
theorem own_retA (X : Stand p l e R s m args below meth c T locs cells slots) (hx : p.tables.exec = Jvm.exec) {pc : Nat} {Ls : Array Slot} {v : Value} {t : FieldType} {rest : List Value} (hv : v.isRef = true) (hret : meth.sig.returnType = some t) (ht : t.isReference = true) (hd : decode c.code pc = .ok (.areturn, 1)) {fs : List Frame}
    (hl : ∀ (f : JFrame) (acts : List Action), f.method = m → f.locked = none → f.entered = [] → (doReturn e (T.setTop f) acts (some v)).1 = T.setFrames fs) : Steps p.tables e below (T.setTop (mkF m pc Ls (v :: rest))) (T.setFrames fs) := by
  have hm' : T.vm.method? m = some meth := X.method'
  show Steps p.tables e below (T.setTop { method := m, pc := pc, locals := Ls, stack := _ :: rest, locked := none }) _
  jvm_step X.here [X.here.top, hx, hd, hm', hret, hv, ht]
  first | (intro acts; rw [hl _ acts rfl rfl rfl]) | rw [hl _ _ rfl rfl rfl]
  exact Steps.refl _
theorem own_go {tb : Tables} {e : Env} {below : List Frame} {A B : State} {P : State → Outcome → Prop} (k : ∀ t, Steps tb e below B t → Steps tb e below A t) (h : ∃ s₂ o, Steps tb e below B s₂ ∧ P s₂ o) : ∃ s₂ o, Steps tb e below A s₂ ∧ P s₂ o := by
  obtain ⟨t, o, h1, h2⟩ := h
  exact ⟨t, o, k t h1, h2⟩
theorem own_abs {tb : Tables} {e : Env} {below : List Frame} {A : State} {P0 : State → Outcome → Prop} (h : ∀ P : State → Outcome → Prop, (∀ s₂ o, P0 s₂ o → P s₂ o) → ∃ s₂ o, Steps tb e below A s₂ ∧ P s₂ o) : ∃ s₂ o, Steps tb e below A s₂ ∧ P0 s₂ o := h P0 fun _ _ q => q
theorem own_oldsz {Z : State} {n0 : Nat} {h : Heap} (O : Old Z n0 h) : n0 ≤ h.size := O.1 ▸ O.2.1
theorem own_b255 (x : Int32) : ¬ (x &&& (255 : Int32)) < 0 ∧ ¬ (255 : Int32) < (x &&& (255 : Int32)) := by
  have h := c_and x 255 (by decide)
  have e : (255 : Int32).toInt = 255 := rfl
  have e0 : (0 : Int32).toInt = 0 := rfl
  rw [Int32.lt_iff_toInt_lt, Int32.lt_iff_toInt_lt]
  omega
theorem own_nc2 (x : Int32) : nar .char (x.toUInt32.toUInt16.toUInt32.toInt32) = x.toUInt32.toUInt16.toUInt32.toInt32 := by
  show (((x.toUInt32.toUInt16.toUInt32).toInt32).toUInt32).toUInt16.toUInt32.toInt32 = _
  rw [UInt32.toUInt32_toInt32, UInt16.toUInt16_toUInt32]
theorem own_nb2 (x : Int32) : x.toInt8.toInt32.toInt8.toInt32 = x.toInt8.toInt32 := by simp
/-- a String's bytes, of its chars -/
abbrev own_bs (cs : List Int32) : List Value := (cs.map fun c => c.toInt8.toInt32).map Value.int
theorem own_narR {v : Value} {t : FieldType} (hv : v.isRef = true) : narrow t v = v := by cases v <;> simp [Value.isRef] at hv <;> cases t <;> rfl
theorem own_fitR {v : Value} {s : String} (hv : v.isRef = true) : fits (.object s) v = true := by cases v <;> simp [Value.isRef] at hv <;> rfl
end New
end Jvm.RoadKit
namespace Jvm.Pilot.@@N@@
open Jvm Jvm.ClassFile Sem Op Lib Jvm.Free Jvm.Stand Jvm.LawKit Jvm.RoadKit Bundle Jvm.Pilot.@@N@@.Jvm.D
theorem own_up {cs : List Int32} (h : ∀ c ∈ cs, ¬ c < 0 ∧ ¬ (255 : Int32) < c) : ∀ c ∈ cs, ¬ c < 0 ∧ ¬ (65535 : Int32) < c := fun c hc => ⟨(h c hc).1, fun q => (h c hc).2 (by rw [Int32.lt_iff_toInt_lt] at q ⊢; have e1 : (65535 : Int32).toInt = 65535 := rfl; have e2 : (255 : Int32).toInt = 255 := rfl; omega)⟩
theorem own_rng {c : Int32} (h : ¬ c < 0 ∧ ¬ (255 : Int32) < c) : 0 ≤ c.toInt ∧ c.toInt ≤ 255 := by
  have e1 : (0 : Int32).toInt = 0 := rfl
  have e2 : (255 : Int32).toInt = 255 := rfl
  rw [Int32.lt_iff_toInt_lt, Int32.lt_iff_toInt_lt] at h; omega
theorem own_i2c {c : Int32} (h : ¬ c < 0 ∧ ¬ (255 : Int32) < c) : c.toUInt32.toUInt16.toUInt32.toInt32 = c := by
  have h1 := own_rng h
  have h2 := c_i2c c
  exact Int32.toInt_inj.mp (by omega)
theorem own_len3 (x : Int32) : (x &&& (3 : Int32)) % (3 : Int32) = (0 : Int32) ∨ (x &&& (3 : Int32)) % (3 : Int32) = (1 : Int32) ∨ (x &&& (3 : Int32)) % (3 : Int32) = (2 : Int32) := by
  have h1 := c_and x 3 (by decide)
  have e3 : (3 : Int32).toInt = 3 := rfl
  have e0 : (0 : Int32).toInt = 0 := rfl
  have e1 : (1 : Int32).toInt = 1 := rfl
  have e2 : (2 : Int32).toInt = 2 := rfl
  have h2 := (c_irem (x &&& 3) 3 3 rfl).1 (by omega)
  rw [← Int32.toInt_inj, ← Int32.toInt_inj, ← Int32.toInt_inj]
  omega
theorem own_xor255 (a b : Int32) : ¬ ((a &&& (255 : Int32)) ^^^ (b &&& (255 : Int32))) < 0 ∧ ¬ (255 : Int32) < ((a &&& (255 : Int32)) ^^^ (b &&& (255 : Int32))) := by
  have e : (a &&& (255 : Int32)) ^^^ (b &&& (255 : Int32)) = (a ^^^ b) &&& (255 : Int32) := by
    apply Int32.toBitVec_inj.mp
    simp only [Int32.toBitVec_xor, Int32.toBitVec_and]
    ext i hi
    simp only [BitVec.getElem_xor, BitVec.getElem_and]
    cases a.toBitVec[i] <;> cases b.toBitVec[i] <;> simp
  rw [e]; exact own_b255 _
theorem own_xor0 (a : Int32) : ¬ ((a &&& (255 : Int32)) ^^^ (0 : Int32)) < 0 ∧ ¬ (255 : Int32) < ((a &&& (255 : Int32)) ^^^ (0 : Int32)) := by
  have e : (a &&& (255 : Int32)) ^^^ (0 : Int32) = a &&& (255 : Int32) := by simp
  rw [e]; exact own_b255 _
theorem own_g {α : Type} {l : List α} {i : Nat} {a : α} (e : l[i]? = some a) : a ∈ l := List.mem_of_getElem? e
theorem own_emptyArv {Z : State} {args : Array Value} {t : Term} {a : Addr} {ty : FieldType} {dv : Value} (hf : Fit Z) (ev : t.eval args Z none [] Z = some (.ref a)) (hA : (Cond.arrayOf t ty).value args Z none Z [] = some true) (hL : (Term.length t).eval args Z none [] Z = some (.int (0 : Int32))) : ∃ k, Arv Z Z.heap a k ty (0 : Int32) [] dv := by
  obtain ⟨cl, A⟩ := Arr.start ev hA
  have h5 : Z.arrayAt? a = some cl := A.fin (Vm.Alike.refl _)
  simp only [Term.eval, ev, h5, Option.bind_eq_bind, Option.bind_some] at hL
  by_cases q : cl.slots.size < 2147483648
  · rw [if_pos q] at hL
    have e : cl.slots.size.toInt32 = (0 : Int32) := by simpa using hL
    exact ⟨_, Arv.start hf A q e (by decide) rfl trivial⟩
  · rw [if_neg q] at hL; cases hL
abbrev own_in (i n : Int32) : Prop := ¬ i < (0 : Int32) ∧ i < n
theorem own_is0 {i : Int32} (h : ¬ i < (0 : Int32)) (h' : i < (1 : Int32)) : i = (0 : Int32) := by
  have e0 : (0 : Int32).toInt = 0 := rfl
  have e1 : (1 : Int32).toInt = 1 := rfl
  rw [Int32.lt_iff_toInt_lt] at h h'
  exact Int32.toInt_inj.mp (by omega)
theorem own_is1 {i : Int32} (h : ¬ i < (0 : Int32)) (h' : i < (2 : Int32)) (hz : ¬ i = (0 : Int32)) : i = (1 : Int32) := by
  have e0 : (0 : Int32).toInt = 0 := rfl
  have e1 : (1 : Int32).toInt = 1 := rfl
  have e2 : (2 : Int32).toInt = 2 := rfl
  rw [Int32.lt_iff_toInt_lt] at h h'
  rw [← Int32.toInt_inj] at hz
  exact Int32.toInt_inj.mp (by omega)
theorem own_mask3 (x : Int32) : (x &&& (3 : Int32)) = (0 : Int32) ∨ (x &&& (3 : Int32)) = (1 : Int32) ∨ (x &&& (3 : Int32)) = (2 : Int32) ∨ (x &&& (3 : Int32)) = (3 : Int32) := by
  have h1 := c_and x 3 (by decide)
  have e3 : (3 : Int32).toInt = 3 := rfl
  have e0 : (0 : Int32).toInt = 0 := rfl
  have e1 : (1 : Int32).toInt = 1 := rfl
  have e2 : (2 : Int32).toInt = 2 := rfl
  rw [← Int32.toInt_inj, ← Int32.toInt_inj, ← Int32.toInt_inj, ← Int32.toInt_inj]
  omega
theorem own_idx {A k p : Int32} (hA : 0 ≤ A.toInt ∧ A.toInt ≤ 2) (hk : 0 ≤ k.toInt ∧ k.toInt ≤ 2) : own_in (A + p) k ↔ (¬ (A.toInt64 + p.toInt64) < (0 : Int64) ∧ (A.toInt64 + p.toInt64) < k.toInt64) := by
  have l1 := Int32.le_toInt p
  have l2 := Int32.toInt_lt p
  have e0 : (0 : Int32).toInt = 0 := rfl
  have e0' : (0 : Int64).toInt = 0 := rfl
  have e64 : (A.toInt64 + p.toInt64).toInt = A.toInt + p.toInt := by
    rw [Int64.toInt_add, Int32.toInt_toInt64, Int32.toInt_toInt64]; exact Int.bmod_eq_of_le (by omega) (by omega)
  have ek : k.toInt64.toInt = k.toInt := Int32.toInt_toInt64 k
  unfold own_in
  rw [Int32.lt_iff_toInt_lt, Int32.lt_iff_toInt_lt, Int64.lt_iff_toInt_lt, Int64.lt_iff_toInt_lt, e64, ek, e0, e0', Int32.toInt_add]
  by_cases q : A.toInt + p.toInt < 2147483648
  · rw [Int.bmod_eq_of_le (by omega) (by omega)]
  · have : (A.toInt + p.toInt).bmod (2 ^ 32) = A.toInt + p.toInt - 4294967296 := by
      rw [Int.bmod_def]; omega
    rw [this]; omega
theorem own_eq3 {I : Prop} {r en : Addr} {v xe : Int32} (a : I → ¬ r = en) (b : ¬ I → r = en) (c : r = en → v = (1 : Int32)) (d : ¬ r = en → v = (0 : Int32)) (e : I → xe = (0 : Int32)) (f : ¬ I → xe = (1 : Int32)) : v = xe := by
  by_cases h : I
  · rw [d (a h), e h]
  · rw [c (b h), f h]
theorem own_min0 {n : Int32} (h : n = (0 : Int32) ∨ n = (1 : Int32) ∨ n = (2 : Int32) ∨ n = (3 : Int32)) : (if (0 : Int32) < n then (0 : Int32) else n) = (0 : Int32) := by rcases h with rfl | rfl | rfl | rfl <;> decide
theorem own_out {a k : Int32} : ¬ own_in (a + (k - a)) k := fun q => by
  have e : a + (k - a) = k := by rw [Int32.add_comm]; exact Int32.sub_add_cancel k a
  have h := q.2
  rw [e, Int32.lt_iff_toInt_lt] at h
  exact absurd h (Int.lt_irrefl _)
theorem d_jdk_30_method_1_0 : decode jdk_30_method_1_code 0 = .ok (.aload_n 0, 1) := by decide +kernel
theorem d_jdk_30_method_1_1 : decode jdk_30_method_1_code 1 = .ok (.invokespecial 1, 3) := by decide +kernel
theorem d_jdk_30_method_1_4 : decode jdk_30_method_1_code 4 = .ok (.return_, 1) := by decide +kernel
theorem pn_0 : plainName "java/lang/Record" = true := by first | (simp [plainName, overriddenIn]; done) | decide +kernel
theorem d_jdk_43_method_3_0 : decode jdk_43_method_3_code 0 = .ok (.iload_n 0, 1) := by decide +kernel
theorem d_jdk_43_method_3_1 : decode jdk_43_method_3_code 1 = .ok (.sipush 255, 3) := by decide +kernel
theorem d_jdk_43_method_3_4 : decode jdk_43_method_3_code 4 = .ok (.if_icmp .gt 7, 3) := by decide +kernel
theorem d_jdk_43_method_3_7 : decode jdk_43_method_3_code 7 = .ok (.iconst 1, 1) := by decide +kernel
theorem d_jdk_43_method_3_8 : decode jdk_43_method_3_code 8 = .ok (.goto 4, 3) := by decide +kernel
theorem d_jdk_43_method_3_12 : decode jdk_43_method_3_code 12 = .ok (.ireturn, 1) := by decide +kernel
theorem pn_1 : plainName "java/lang/StringLatin1" = true := by first | (simp [plainName, overriddenIn]; done) | decide +kernel
theorem d_jdk_43_method_46_0 : decode jdk_43_method_46_code 0 = .ok (.iconst 1, 1) := by decide +kernel
theorem d_jdk_43_method_46_1 : decode jdk_43_method_46_code 1 = .ok (.newarray .byte, 2) := by decide +kernel
theorem d_jdk_43_method_46_3 : decode jdk_43_method_46_code 3 = .ok (.dup, 1) := by decide +kernel
theorem d_jdk_43_method_46_4 : decode jdk_43_method_46_code 4 = .ok (.iconst 0, 1) := by decide +kernel
theorem d_jdk_43_method_46_5 : decode jdk_43_method_46_code 5 = .ok (.iload_n 0, 1) := by decide +kernel
theorem d_jdk_43_method_46_6 : decode jdk_43_method_46_code 6 = .ok (.i2b, 1) := by decide +kernel
theorem d_jdk_43_method_46_7 : decode jdk_43_method_46_code 7 = .ok (.bastore, 1) := by decide +kernel
theorem d_jdk_43_method_46_8 : decode jdk_43_method_46_code 8 = .ok (.areturn, 1) := by decide +kernel
theorem d_jdk_42_method_151_0 : decode jdk_42_method_151_code 0 = .ok (.aload_n 0, 1) := by decide +kernel
theorem d_jdk_42_method_151_1 : decode jdk_42_method_151_code 1 = .ok (.invokespecial 1, 3) := by decide +kernel
theorem d_jdk_42_method_151_4 : decode jdk_42_method_151_code 4 = .ok (.aload_n 0, 1) := by decide +kernel
theorem d_jdk_42_method_151_5 : decode jdk_42_method_151_code 5 = .ok (.aload_n 1, 1) := by decide +kernel
theorem d_jdk_42_method_151_6 : decode jdk_42_method_151_code 6 = .ok (.putfield 9, 3) := by decide +kernel
theorem d_jdk_42_method_151_9 : decode jdk_42_method_151_code 9 = .ok (.aload_n 0, 1) := by decide +kernel
theorem d_jdk_42_method_151_10 : decode jdk_42_method_151_code 10 = .ok (.iload_n 2, 1) := by decide +kernel
theorem d_jdk_42_method_151_11 : decode jdk_42_method_151_code 11 = .ok (.putfield 15, 3) := by decide +kernel
theorem d_jdk_42_method_151_14 : decode jdk_42_method_151_code 14 = .ok (.return_, 1) := by decide +kernel
theorem pn_2 : plainName "java/lang/String" = true := by first | (simp [plainName, overriddenIn]; done) | decide +kernel
theorem d_jdk_42_method_139_0 : decode jdk_42_method_139_code 0 = .ok (.getstatic 38, 3) := by decide +kernel
theorem d_jdk_42_method_139_3 : decode jdk_42_method_139_code 3 = .ok (.ifCond .eq 23, 3) := by decide +kernel
theorem d_jdk_42_method_139_6 : decode jdk_42_method_139_code 6 = .ok (.iload_n 0, 1) := by decide +kernel
theorem d_jdk_42_method_139_7 : decode jdk_42_method_139_code 7 = .ok (.invokestatic 1015, 3) := by decide +kernel
theorem pd_0 : parseMethodDescriptor "(C)Z" = some ⟨[.char], some .boolean⟩ := by decide +kernel
theorem d_jdk_42_method_139_10 : decode jdk_42_method_139_code 10 = .ok (.ifCond .eq 16, 3) := by decide +kernel
theorem d_jdk_42_method_139_13 : decode jdk_42_method_139_code 13 = .ok (.new 10, 3) := by decide +kernel
theorem d_jdk_42_method_139_16 : decode jdk_42_method_139_code 16 = .ok (.dup, 1) := by decide +kernel
theorem d_jdk_42_method_139_17 : decode jdk_42_method_139_code 17 = .ok (.iload_n 0, 1) := by decide +kernel
theorem d_jdk_42_method_139_18 : decode jdk_42_method_139_code 18 = .ok (.invokestatic 1018, 3) := by decide +kernel
theorem pd_1 : parseMethodDescriptor "(C)[B" = some ⟨[.char], some (.array .byte)⟩ := by decide +kernel
theorem d_jdk_42_method_139_21 : decode jdk_42_method_139_code 21 = .ok (.iconst 0, 1) := by decide +kernel
theorem d_jdk_42_method_139_22 : decode jdk_42_method_139_code 22 = .ok (.invokespecial 209, 3) := by decide +kernel
theorem pd_2 : parseMethodDescriptor "([BB)V" = some ⟨[(.array .byte), .byte], none⟩ := by decide +kernel
theorem d_jdk_42_method_139_25 : decode jdk_42_method_139_code 25 = .ok (.areturn, 1) := by decide +kernel
theorem d_prog_90_method_1_0 : decode prog_90_method_1_code 0 = .ok (.aload_n 0, 1) := by decide +kernel
theorem d_prog_90_method_1_1 : decode prog_90_method_1_code 1 = .ok (.invokespecial 1, 3) := by decide +kernel
theorem pd_3 : parseMethodDescriptor "()V" = some ⟨[], none⟩ := by decide +kernel
theorem d_prog_90_method_1_4 : decode prog_90_method_1_code 4 = .ok (.aload_n 0, 1) := by decide +kernel
theorem d_prog_90_method_1_5 : decode prog_90_method_1_code 5 = .ok (.aload_n 1, 1) := by decide +kernel
theorem d_prog_90_method_1_6 : decode prog_90_method_1_code 6 = .ok (.putfield 7, 3) := by decide +kernel
theorem d_prog_90_method_1_9 : decode prog_90_method_1_code 9 = .ok (.aload_n 0, 1) := by decide +kernel
theorem d_prog_90_method_1_10 : decode prog_90_method_1_code 10 = .ok (.aload_n 2, 1) := by decide +kernel
theorem d_prog_90_method_1_11 : decode prog_90_method_1_code 11 = .ok (.putfield 13, 3) := by decide +kernel
theorem d_prog_90_method_1_14 : decode prog_90_method_1_code 14 = .ok (.aload_n 0, 1) := by decide +kernel
theorem d_prog_90_method_1_15 : decode prog_90_method_1_code 15 = .ok (.iload_n 3, 1) := by decide +kernel
theorem d_prog_90_method_1_16 : decode prog_90_method_1_code 16 = .ok (.putfield 17, 3) := by decide +kernel
theorem d_prog_90_method_1_19 : decode prog_90_method_1_code 19 = .ok (.aload_n 0, 1) := by decide +kernel
theorem d_prog_90_method_1_20 : decode prog_90_method_1_code 20 = .ok (.iload 4, 2) := by decide +kernel
theorem d_prog_90_method_1_22 : decode prog_90_method_1_code 22 = .ok (.putfield 21, 3) := by decide +kernel
theorem d_prog_90_method_1_25 : decode prog_90_method_1_code 25 = .ok (.return_, 1) := by decide +kernel
theorem pn_3 : plainName "com/example/nasute/nasute/sql/Token" = true := by first | (simp [plainName, overriddenIn]; done) | decide +kernel
theorem d_method_4_0 : decode method_4_code 0 = .ok (.iload_n 0, 1) := by decide +kernel
theorem d_method_4_1 : decode method_4_code 1 = .ok (.bipush 7, 2) := by decide +kernel
theorem d_method_4_3 : decode method_4_code 3 = .ok (.iand, 1) := by decide +kernel
theorem d_method_4_4 : decode method_4_code 4 = .ok (.bipush 6, 2) := by decide +kernel
theorem d_method_4_6 : decode method_4_code 6 = .ok (.irem, 1) := by decide +kernel
theorem d_method_4_7 : decode method_4_code 7 = .ok (.istore_n 1, 1) := by decide +kernel
theorem d_method_4_8 : decode method_4_code 8 = .ok (.iload_n 1, 1) := by decide +kernel
theorem d_method_4_9 : decode method_4_code 9 = .ok (.ifCond .ne 7, 3) := by decide +kernel
theorem d_method_4_12 : decode method_4_code 12 = .ok (.getstatic 60, 3) := by decide +kernel
theorem d_method_4_15 : decode method_4_code 15 = .ok (.areturn, 1) := by decide +kernel
theorem d_method_4_16 : decode method_4_code 16 = .ok (.iload_n 1, 1) := by decide +kernel
theorem d_method_4_17 : decode method_4_code 17 = .ok (.iconst 1, 1) := by decide +kernel
theorem d_method_4_18 : decode method_4_code 18 = .ok (.if_icmp .ne 7, 3) := by decide +kernel
theorem d_method_4_21 : decode method_4_code 21 = .ok (.getstatic 66, 3) := by decide +kernel
theorem d_method_4_24 : decode method_4_code 24 = .ok (.areturn, 1) := by decide +kernel
theorem d_method_4_25 : decode method_4_code 25 = .ok (.iload_n 1, 1) := by decide +kernel
theorem d_method_4_26 : decode method_4_code 26 = .ok (.iconst 2, 1) := by decide +kernel
theorem d_method_4_27 : decode method_4_code 27 = .ok (.if_icmp .ne 7, 3) := by decide +kernel
theorem d_method_4_30 : decode method_4_code 30 = .ok (.getstatic 69, 3) := by decide +kernel
theorem d_method_4_33 : decode method_4_code 33 = .ok (.areturn, 1) := by decide +kernel
theorem d_method_4_34 : decode method_4_code 34 = .ok (.iload_n 1, 1) := by decide +kernel
theorem d_method_4_35 : decode method_4_code 35 = .ok (.iconst 3, 1) := by decide +kernel
theorem d_method_4_36 : decode method_4_code 36 = .ok (.if_icmp .ne 7, 3) := by decide +kernel
theorem d_method_4_39 : decode method_4_code 39 = .ok (.getstatic 72, 3) := by decide +kernel
theorem d_method_4_42 : decode method_4_code 42 = .ok (.areturn, 1) := by decide +kernel
theorem d_method_4_43 : decode method_4_code 43 = .ok (.iload_n 1, 1) := by decide +kernel
theorem d_method_4_44 : decode method_4_code 44 = .ok (.iconst 4, 1) := by decide +kernel
theorem d_method_4_45 : decode method_4_code 45 = .ok (.if_icmp .ne 7, 3) := by decide +kernel
theorem d_method_4_48 : decode method_4_code 48 = .ok (.getstatic 75, 3) := by decide +kernel
theorem d_method_4_51 : decode method_4_code 51 = .ok (.areturn, 1) := by decide +kernel
theorem d_method_4_52 : decode method_4_code 52 = .ok (.getstatic 78, 3) := by decide +kernel
theorem d_method_4_55 : decode method_4_code 55 = .ok (.areturn, 1) := by decide +kernel
theorem pn_4 : plainName "com/example/nasute/nasute/sql/TokenCursorIsTextEndPinLaw" = true := by first | (simp [plainName, overriddenIn]; done) | decide +kernel
theorem d_method_3_0 : decode method_3_code 0 = .ok (.iload_n 0, 1) := by decide +kernel
theorem d_method_3_1 : decode method_3_code 1 = .ok (.sipush 256, 3) := by decide +kernel
theorem d_method_3_4 : decode method_3_code 4 = .ok (.iand, 1) := by decide +kernel
theorem d_method_3_5 : decode method_3_code 5 = .ok (.ifCond .eq 8, 3) := by decide +kernel
theorem d_method_3_13 : decode method_3_code 13 = .ok (.iload_n 0, 1) := by decide +kernel
theorem d_method_3_14 : decode method_3_code 14 = .ok (.sipush 255, 3) := by decide +kernel
theorem d_method_3_17 : decode method_3_code 17 = .ok (.iand, 1) := by decide +kernel
theorem d_method_3_18 : decode method_3_code 18 = .ok (.i2c, 1) := by decide +kernel
theorem d_method_3_19 : decode method_3_code 19 = .ok (.invokestatic 45, 3) := by decide +kernel
theorem pd_4 : parseMethodDescriptor "(C)Ljava/lang/String;" = some ⟨[.char], some (.object "java/lang/String")⟩ := by decide +kernel
theorem d_method_3_22 : decode method_3_code 22 = .ok (.astore_n 2, 1) := by decide +kernel
theorem d_method_3_23 : decode method_3_code 23 = .ok (.iload_n 0, 1) := by decide +kernel
theorem d_method_3_24 : decode method_3_code 24 = .ok (.bipush 9, 2) := by decide +kernel
theorem d_method_3_26 : decode method_3_code 26 = .ok (.iushr, 1) := by decide +kernel
theorem d_method_3_27 : decode method_3_code 27 = .ok (.istore_n 3, 1) := by decide +kernel
theorem d_method_3_28 : decode method_3_code 28 = .ok (.new 51, 3) := by decide +kernel
theorem d_method_3_31 : decode method_3_code 31 = .ok (.dup, 1) := by decide +kernel
theorem d_method_3_32 : decode method_3_code 32 = .ok (.iload_n 1, 1) := by decide +kernel
theorem d_method_3_33 : decode method_3_code 33 = .ok (.invokestatic 53, 3) := by decide +kernel
theorem pd_5 : parseMethodDescriptor "(I)Lcom/example/nasute/nasute/sql/Token$Type;" = some ⟨[.int], some (.object "com/example/nasute/nasute/sql/Token$Type")⟩ := by decide +kernel
theorem d_method_3_36 : decode method_3_code 36 = .ok (.aload_n 2, 1) := by decide +kernel
theorem d_method_3_37 : decode method_3_code 37 = .ok (.iload_n 3, 1) := by decide +kernel
theorem d_method_3_38 : decode method_3_code 38 = .ok (.iload_n 3, 1) := by decide +kernel
theorem d_method_3_39 : decode method_3_code 39 = .ok (.iconst 1, 1) := by decide +kernel
theorem d_method_3_40 : decode method_3_code 40 = .ok (.iadd, 1) := by decide +kernel
theorem d_method_3_41 : decode method_3_code 41 = .ok (.invokespecial 57, 3) := by decide +kernel
theorem pd_6 : parseMethodDescriptor "(Lcom/example/nasute/nasute/sql/Token$Type;Ljava/lang/String;II)V" = some ⟨[(.object "com/example/nasute/nasute/sql/Token$Type"), (.object "java/lang/String"), .int, .int], none⟩ := by decide +kernel
theorem d_method_3_44 : decode method_3_code 44 = .ok (.areturn, 1) := by decide +kernel
theorem d_method_3_8 : decode method_3_code 8 = .ok (.ldc 43, 2) := by decide +kernel
theorem d_method_3_10 : decode method_3_code 10 = .ok (.goto 12, 3) := by decide +kernel
theorem d_jdk_29_method_69_0 : decode jdk_29_method_69_code 0 = .ok (.iload_n 0, 1) := by decide +kernel
theorem d_jdk_29_method_69_1 : decode jdk_29_method_69_code 1 = .ok (.iload_n 1, 1) := by decide +kernel
theorem d_jdk_29_method_69_2 : decode jdk_29_method_69_code 2 = .ok (.if_icmp .gt 7, 3) := by decide +kernel
theorem d_jdk_29_method_69_9 : decode jdk_29_method_69_code 9 = .ok (.iload_n 1, 1) := by decide +kernel
theorem d_jdk_29_method_69_10 : decode jdk_29_method_69_code 10 = .ok (.ireturn, 1) := by decide +kernel
theorem d_jdk_29_method_69_5 : decode jdk_29_method_69_code 5 = .ok (.iload_n 0, 1) := by decide +kernel
theorem d_jdk_29_method_69_6 : decode jdk_29_method_69_code 6 = .ok (.goto 4, 3) := by decide +kernel
theorem d_jdk_29_method_65_0 : decode jdk_29_method_65_code 0 = .ok (.iload_n 0, 1) := by decide +kernel
theorem d_jdk_29_method_65_1 : decode jdk_29_method_65_code 1 = .ok (.iload_n 1, 1) := by decide +kernel
theorem d_jdk_29_method_65_2 : decode jdk_29_method_65_code 2 = .ok (.if_icmp .lt 7, 3) := by decide +kernel
theorem d_jdk_29_method_65_5 : decode jdk_29_method_65_code 5 = .ok (.iload_n 0, 1) := by decide +kernel
theorem d_jdk_29_method_65_6 : decode jdk_29_method_65_code 6 = .ok (.goto 4, 3) := by decide +kernel
theorem d_jdk_29_method_65_10 : decode jdk_29_method_65_code 10 = .ok (.ireturn, 1) := by decide +kernel
theorem d_jdk_22_method_1_0 : decode jdk_22_method_1_code 0 = .ok (.aload_n 0, 1) := by decide +kernel
theorem d_jdk_22_method_1_1 : decode jdk_22_method_1_code 1 = .ok (.invokespecial 1, 3) := by decide +kernel
theorem d_jdk_22_method_1_4 : decode jdk_22_method_1_code 4 = .ok (.return_, 1) := by decide +kernel
theorem pn_5 : plainName "java/util/AbstractCollection" = true := by first | (simp [plainName, overriddenIn]; done) | decide +kernel
theorem d_jdk_39_method_1_0 : decode jdk_39_method_1_code 0 = .ok (.aload_n 0, 1) := by decide +kernel
theorem d_jdk_39_method_1_1 : decode jdk_39_method_1_code 1 = .ok (.invokespecial 1, 3) := by decide +kernel
theorem d_jdk_39_method_1_4 : decode jdk_39_method_1_code 4 = .ok (.aload_n 0, 1) := by decide +kernel
theorem d_jdk_39_method_1_5 : decode jdk_39_method_1_code 5 = .ok (.iconst 0, 1) := by decide +kernel
theorem d_jdk_39_method_1_6 : decode jdk_39_method_1_code 6 = .ok (.putfield 7, 3) := by decide +kernel
theorem d_jdk_39_method_1_9 : decode jdk_39_method_1_code 9 = .ok (.return_, 1) := by decide +kernel
theorem pn_6 : plainName "java/util/AbstractList" = true := by first | (simp [plainName, overriddenIn]; done) | decide +kernel
theorem d_jdk_38_method_2_0 : decode jdk_38_method_2_code 0 = .ok (.aload_n 0, 1) := by decide +kernel
theorem d_jdk_38_method_2_1 : decode jdk_38_method_2_code 1 = .ok (.invokespecial 1, 3) := by decide +kernel
theorem d_jdk_38_method_2_4 : decode jdk_38_method_2_code 4 = .ok (.aload_n 0, 1) := by decide +kernel
theorem d_jdk_38_method_2_5 : decode jdk_38_method_2_code 5 = .ok (.getstatic 39, 3) := by decide +kernel
theorem d_jdk_38_method_2_8 : decode jdk_38_method_2_code 8 = .ok (.putfield 9, 3) := by decide +kernel
theorem d_jdk_38_method_2_11 : decode jdk_38_method_2_code 11 = .ok (.return_, 1) := by decide +kernel
theorem pn_7 : plainName "java/util/ArrayList" = true := by first | (simp [plainName, overriddenIn]; done) | decide +kernel
theorem d_jdk_38_method_6_0 : decode jdk_38_method_6_code 0 = .ok (.aload_n 0, 1) := by decide +kernel
theorem d_jdk_38_method_6_1 : decode jdk_38_method_6_code 1 = .ok (.getfield 9, 3) := by decide +kernel
theorem d_jdk_38_method_6_4 : decode jdk_38_method_6_code 4 = .ok (.arraylength, 1) := by decide +kernel
theorem d_jdk_38_method_6_5 : decode jdk_38_method_6_code 5 = .ok (.istore_n 2, 1) := by decide +kernel
theorem d_jdk_38_method_6_6 : decode jdk_38_method_6_code 6 = .ok (.iload_n 2, 1) := by decide +kernel
theorem d_jdk_38_method_6_7 : decode jdk_38_method_6_code 7 = .ok (.ifCond .gt 13, 3) := by decide +kernel
theorem d_jdk_38_method_6_10 : decode jdk_38_method_6_code 10 = .ok (.aload_n 0, 1) := by decide +kernel
theorem d_jdk_38_method_6_11 : decode jdk_38_method_6_code 11 = .ok (.getfield 9, 3) := by decide +kernel
theorem d_jdk_38_method_6_14 : decode jdk_38_method_6_code 14 = .ok (.getstatic 39, 3) := by decide +kernel
theorem d_jdk_38_method_6_17 : decode jdk_38_method_6_code 17 = .ok (.if_acmp .eq 28, 3) := by decide +kernel
theorem d_jdk_38_method_6_45 : decode jdk_38_method_6_code 45 = .ok (.aload_n 0, 1) := by decide +kernel
theorem d_jdk_38_method_6_46 : decode jdk_38_method_6_code 46 = .ok (.bipush 10, 2) := by decide +kernel
theorem d_jdk_38_method_6_48 : decode jdk_38_method_6_code 48 = .ok (.iload_n 1, 1) := by decide +kernel
theorem d_jdk_38_method_6_49 : decode jdk_38_method_6_code 49 = .ok (.invokestatic 79, 3) := by decide +kernel
theorem pd_7 : parseMethodDescriptor "(II)I" = some ⟨[.int, .int], some .int⟩ := by decide +kernel
theorem d_jdk_38_method_6_52 : decode jdk_38_method_6_code 52 = .ok (.anewarray 7, 3) := by decide +kernel
theorem d_jdk_38_method_6_55 : decode jdk_38_method_6_code 55 = .ok (.dup_x1, 1) := by decide +kernel
theorem d_jdk_38_method_6_56 : decode jdk_38_method_6_code 56 = .ok (.putfield 9, 3) := by decide +kernel
theorem d_jdk_38_method_6_59 : decode jdk_38_method_6_code 59 = .ok (.areturn, 1) := by decide +kernel
theorem d_jdk_38_method_7_0 : decode jdk_38_method_7_code 0 = .ok (.aload_n 0, 1) := by decide +kernel
theorem d_jdk_38_method_7_1 : decode jdk_38_method_7_code 1 = .ok (.aload_n 0, 1) := by decide +kernel
theorem d_jdk_38_method_7_2 : decode jdk_38_method_7_code 2 = .ok (.getfield 48, 3) := by decide +kernel
theorem d_jdk_38_method_7_5 : decode jdk_38_method_7_code 5 = .ok (.iconst 1, 1) := by decide +kernel
theorem d_jdk_38_method_7_6 : decode jdk_38_method_7_code 6 = .ok (.iadd, 1) := by decide +kernel
theorem d_jdk_38_method_7_7 : decode jdk_38_method_7_code 7 = .ok (.invokevirtual 69, 3) := by decide +kernel
theorem pd_8 : parseMethodDescriptor "(I)[Ljava/lang/Object;" = some ⟨[.int], some (.array (.object "java/lang/Object"))⟩ := by decide +kernel
theorem d_jdk_38_method_7_10 : decode jdk_38_method_7_code 10 = .ok (.areturn, 1) := by decide +kernel
theorem d_jdk_38_method_24_0 : decode jdk_38_method_24_code 0 = .ok (.iload_n 3, 1) := by decide +kernel
theorem d_jdk_38_method_24_1 : decode jdk_38_method_24_code 1 = .ok (.aload_n 2, 1) := by decide +kernel
theorem d_jdk_38_method_24_2 : decode jdk_38_method_24_code 2 = .ok (.arraylength, 1) := by decide +kernel
theorem d_jdk_38_method_24_3 : decode jdk_38_method_24_code 3 = .ok (.if_icmp .ne 8, 3) := by decide +kernel
theorem d_jdk_38_method_24_6 : decode jdk_38_method_24_code 6 = .ok (.aload_n 0, 1) := by decide +kernel
theorem d_jdk_38_method_24_7 : decode jdk_38_method_24_code 7 = .ok (.invokevirtual 129, 3) := by decide +kernel
theorem pd_9 : parseMethodDescriptor "()[Ljava/lang/Object;" = some ⟨[], some (.array (.object "java/lang/Object"))⟩ := by decide +kernel
theorem d_jdk_38_method_24_10 : decode jdk_38_method_24_code 10 = .ok (.astore_n 2, 1) := by decide +kernel
theorem d_jdk_38_method_24_11 : decode jdk_38_method_24_code 11 = .ok (.aload_n 2, 1) := by decide +kernel
theorem d_jdk_38_method_24_12 : decode jdk_38_method_24_code 12 = .ok (.iload_n 3, 1) := by decide +kernel
theorem d_jdk_38_method_24_13 : decode jdk_38_method_24_code 13 = .ok (.aload_n 1, 1) := by decide +kernel
theorem d_jdk_38_method_24_14 : decode jdk_38_method_24_code 14 = .ok (.aastore, 1) := by decide +kernel
theorem d_jdk_38_method_24_15 : decode jdk_38_method_24_code 15 = .ok (.aload_n 0, 1) := by decide +kernel
theorem d_jdk_38_method_24_16 : decode jdk_38_method_24_code 16 = .ok (.iload_n 3, 1) := by decide +kernel
theorem d_jdk_38_method_24_17 : decode jdk_38_method_24_code 17 = .ok (.iconst 1, 1) := by decide +kernel
theorem d_jdk_38_method_24_18 : decode jdk_38_method_24_code 18 = .ok (.iadd, 1) := by decide +kernel
theorem d_jdk_38_method_24_19 : decode jdk_38_method_24_code 19 = .ok (.putfield 48, 3) := by decide +kernel
theorem d_jdk_38_method_24_22 : decode jdk_38_method_24_code 22 = .ok (.return_, 1) := by decide +kernel
theorem d_jdk_38_method_25_0 : decode jdk_38_method_25_code 0 = .ok (.aload_n 0, 1) := by decide +kernel
theorem d_jdk_38_method_25_1 : decode jdk_38_method_25_code 1 = .ok (.dup, 1) := by decide +kernel
theorem d_jdk_38_method_25_2 : decode jdk_38_method_25_code 2 = .ok (.getfield 63, 3) := by decide +kernel
theorem d_jdk_38_method_25_5 : decode jdk_38_method_25_code 5 = .ok (.iconst 1, 1) := by decide +kernel
theorem d_jdk_38_method_25_6 : decode jdk_38_method_25_code 6 = .ok (.iadd, 1) := by decide +kernel
theorem d_jdk_38_method_25_7 : decode jdk_38_method_25_code 7 = .ok (.putfield 63, 3) := by decide +kernel
theorem d_jdk_38_method_25_10 : decode jdk_38_method_25_code 10 = .ok (.aload_n 0, 1) := by decide +kernel
theorem d_jdk_38_method_25_11 : decode jdk_38_method_25_code 11 = .ok (.aload_n 1, 1) := by decide +kernel
theorem d_jdk_38_method_25_12 : decode jdk_38_method_25_code 12 = .ok (.aload_n 0, 1) := by decide +kernel
theorem d_jdk_38_method_25_13 : decode jdk_38_method_25_code 13 = .ok (.getfield 9, 3) := by decide +kernel
theorem d_jdk_38_method_25_16 : decode jdk_38_method_25_code 16 = .ok (.aload_n 0, 1) := by decide +kernel
theorem d_jdk_38_method_25_17 : decode jdk_38_method_25_code 17 = .ok (.getfield 48, 3) := by decide +kernel
theorem d_jdk_38_method_25_20 : decode jdk_38_method_25_code 20 = .ok (.invokevirtual 131, 3) := by decide +kernel
theorem pd_10 : parseMethodDescriptor "(Ljava/lang/Object;[Ljava/lang/Object;I)V" = some ⟨[(.object "java/lang/Object"), (.array (.object "java/lang/Object")), .int], none⟩ := by decide +kernel
theorem d_jdk_38_method_25_23 : decode jdk_38_method_25_code 23 = .ok (.iconst 1, 1) := by decide +kernel
theorem d_jdk_38_method_25_24 : decode jdk_38_method_25_code 24 = .ok (.ireturn, 1) := by decide +kernel
theorem d_jdk_38_method_8_0 : decode jdk_38_method_8_code 0 = .ok (.aload_n 0, 1) := by decide +kernel
theorem d_jdk_38_method_8_1 : decode jdk_38_method_8_code 1 = .ok (.getfield 48, 3) := by decide +kernel
theorem d_jdk_38_method_8_4 : decode jdk_38_method_8_code 4 = .ok (.ireturn, 1) := by decide +kernel
theorem d_jdk_41_method_11_0 : decode jdk_41_method_11_code 0 = .ok (.iload_n 0, 1) := by decide +kernel
theorem d_jdk_41_method_11_1 : decode jdk_41_method_11_code 1 = .ok (.ifCond .lt 8, 3) := by decide +kernel
theorem d_jdk_41_method_11_4 : decode jdk_41_method_11_code 4 = .ok (.iload_n 0, 1) := by decide +kernel
theorem d_jdk_41_method_11_5 : decode jdk_41_method_11_code 5 = .ok (.iload_n 1, 1) := by decide +kernel
theorem d_jdk_41_method_11_6 : decode jdk_41_method_11_code 6 = .ok (.if_icmp .lt 10, 3) := by decide +kernel
theorem d_jdk_41_method_11_16 : decode jdk_41_method_11_code 16 = .ok (.iload_n 0, 1) := by decide +kernel
theorem d_jdk_41_method_11_17 : decode jdk_41_method_11_code 17 = .ok (.ireturn, 1) := by decide +kernel
theorem pn_8 : plainName "jdk/internal/util/Preconditions" = true := by first | (simp [plainName, overriddenIn]; done) | decide +kernel
theorem d_jdk_31_method_17_0 : decode jdk_31_method_17_code 0 = .ok (.iload_n 0, 1) := by decide +kernel
theorem d_jdk_31_method_17_1 : decode jdk_31_method_17_code 1 = .ok (.iload_n 1, 1) := by decide +kernel
theorem d_jdk_31_method_17_2 : decode jdk_31_method_17_code 2 = .ok (.aconst_null, 1) := by decide +kernel
theorem d_jdk_31_method_17_3 : decode jdk_31_method_17_code 3 = .ok (.invokestatic 105, 3) := by decide +kernel
theorem pd_11 : parseMethodDescriptor "(IILjava/util/function/BiFunction;)I" = some ⟨[.int, .int, (.object "java/util/function/BiFunction")], some .int⟩ := by decide +kernel
theorem d_jdk_31_method_17_6 : decode jdk_31_method_17_code 6 = .ok (.ireturn, 1) := by decide +kernel
theorem pn_9 : plainName "java/util/Objects" = true := by first | (simp [plainName, overriddenIn]; done) | decide +kernel
theorem d_jdk_38_method_18_0 : decode jdk_38_method_18_code 0 = .ok (.aload_n 0, 1) := by decide +kernel
theorem d_jdk_38_method_18_1 : decode jdk_38_method_18_code 1 = .ok (.getfield 9, 3) := by decide +kernel
theorem d_jdk_38_method_18_4 : decode jdk_38_method_18_code 4 = .ok (.iload_n 1, 1) := by decide +kernel
theorem d_jdk_38_method_18_5 : decode jdk_38_method_18_code 5 = .ok (.aaload, 1) := by decide +kernel
theorem d_jdk_38_method_18_6 : decode jdk_38_method_18_code 6 = .ok (.areturn, 1) := by decide +kernel
theorem d_jdk_38_method_20_0 : decode jdk_38_method_20_code 0 = .ok (.iload_n 1, 1) := by decide +kernel
theorem d_jdk_38_method_20_1 : decode jdk_38_method_20_code 1 = .ok (.aload_n 0, 1) := by decide +kernel
theorem d_jdk_38_method_20_2 : decode jdk_38_method_20_code 2 = .ok (.getfield 48, 3) := by decide +kernel
theorem d_jdk_38_method_20_5 : decode jdk_38_method_20_code 5 = .ok (.invokestatic 118, 3) := by decide +kernel
theorem d_jdk_38_method_20_8 : decode jdk_38_method_20_code 8 = .ok (.pop, 1) := by decide +kernel
theorem d_jdk_38_method_20_9 : decode jdk_38_method_20_code 9 = .ok (.aload_n 0, 1) := by decide +kernel
theorem d_jdk_38_method_20_10 : decode jdk_38_method_20_code 10 = .ok (.iload_n 1, 1) := by decide +kernel
theorem d_jdk_38_method_20_11 : decode jdk_38_method_20_code 11 = .ok (.invokevirtual 123, 3) := by decide +kernel
theorem pd_12 : parseMethodDescriptor "(I)Ljava/lang/Object;" = some ⟨[.int], some (.object "java/lang/Object")⟩ := by decide +kernel
theorem d_jdk_38_method_20_14 : decode jdk_38_method_20_code 14 = .ok (.areturn, 1) := by decide +kernel
theorem d_prog_92_method_1_0 : decode prog_92_method_1_code 0 = .ok (.aload_n 0, 1) := by decide +kernel
theorem d_prog_92_method_1_1 : decode prog_92_method_1_code 1 = .ok (.invokespecial 1, 3) := by decide +kernel
theorem d_prog_92_method_1_4 : decode prog_92_method_1_code 4 = .ok (.aload_n 0, 1) := by decide +kernel
theorem d_prog_92_method_1_5 : decode prog_92_method_1_code 5 = .ok (.aload_n 1, 1) := by decide +kernel
theorem d_prog_92_method_1_6 : decode prog_92_method_1_code 6 = .ok (.putfield 7, 3) := by decide +kernel
theorem d_prog_92_method_1_9 : decode prog_92_method_1_code 9 = .ok (.aload_n 0, 1) := by decide +kernel
theorem d_prog_92_method_1_10 : decode prog_92_method_1_code 10 = .ok (.new 13, 3) := by decide +kernel
theorem d_prog_92_method_1_13 : decode prog_92_method_1_code 13 = .ok (.dup, 1) := by decide +kernel
theorem d_prog_92_method_1_14 : decode prog_92_method_1_code 14 = .ok (.getstatic 15, 3) := by decide +kernel
theorem d_prog_92_method_1_17 : decode prog_92_method_1_code 17 = .ok (.ldc 21, 2) := by decide +kernel
theorem d_prog_92_method_1_19 : decode prog_92_method_1_code 19 = .ok (.iload_n 2, 1) := by decide +kernel
theorem d_prog_92_method_1_20 : decode prog_92_method_1_code 20 = .ok (.iload_n 2, 1) := by decide +kernel
theorem d_prog_92_method_1_21 : decode prog_92_method_1_code 21 = .ok (.invokespecial 23, 3) := by decide +kernel
theorem d_prog_92_method_1_24 : decode prog_92_method_1_code 24 = .ok (.putfield 26, 3) := by decide +kernel
theorem d_prog_92_method_1_27 : decode prog_92_method_1_code 27 = .ok (.return_, 1) := by decide +kernel
theorem pn_10 : plainName "com/example/nasute/nasute/sql/TokenCursor" = true := by first | (simp [plainName, overriddenIn]; done) | decide +kernel
theorem d_method_1_0 : decode method_1_code 0 = .ok (.aload_n 0, 1) := by decide +kernel
theorem d_method_1_1 : decode method_1_code 1 = .ok (.aload_n 1, 1) := by decide +kernel
theorem d_method_1_2 : decode method_1_code 2 = .ok (.iload_n 2, 1) := by decide +kernel
theorem d_method_1_3 : decode method_1_code 3 = .ok (.invokespecial 1, 3) := by decide +kernel
theorem pd_13 : parseMethodDescriptor "(Ljava/util/List;I)V" = some ⟨[(.object "java/util/List"), .int], none⟩ := by decide +kernel
theorem d_method_1_6 : decode method_1_code 6 = .ok (.return_, 1) := by decide +kernel
theorem d_prog_92_method_13_0 : decode prog_92_method_13_code 0 = .ok (.aload_n 1, 1) := by decide +kernel
theorem d_prog_92_method_13_1 : decode prog_92_method_13_code 1 = .ok (.aload_n 0, 1) := by decide +kernel
theorem d_prog_92_method_13_2 : decode prog_92_method_13_code 2 = .ok (.getfield 26, 3) := by decide +kernel
theorem d_prog_92_method_13_5 : decode prog_92_method_13_code 5 = .ok (.if_acmp .ne 7, 3) := by decide +kernel
theorem d_prog_92_method_13_8 : decode prog_92_method_13_code 8 = .ok (.iconst 1, 1) := by decide +kernel
theorem d_prog_92_method_13_9 : decode prog_92_method_13_code 9 = .ok (.goto 4, 3) := by decide +kernel
theorem d_prog_92_method_13_13 : decode prog_92_method_13_code 13 = .ok (.ireturn, 1) := by decide +kernel
theorem d_prog_92_method_13_12 : decode prog_92_method_13_code 12 = .ok (.iconst 0, 1) := by decide +kernel
theorem d_prog_92_method_3_0 : decode prog_92_method_3_code 0 = .ok (.aload_n 0, 1) := by decide +kernel
theorem d_prog_92_method_3_1 : decode prog_92_method_3_code 1 = .ok (.getfield 34, 3) := by decide +kernel
theorem d_prog_92_method_3_4 : decode prog_92_method_3_code 4 = .ok (.iload_n 1, 1) := by decide +kernel
theorem d_prog_92_method_3_5 : decode prog_92_method_3_code 5 = .ok (.iadd, 1) := by decide +kernel
theorem d_prog_92_method_3_6 : decode prog_92_method_3_code 6 = .ok (.istore_n 2, 1) := by decide +kernel
theorem d_prog_92_method_3_7 : decode prog_92_method_3_code 7 = .ok (.iload_n 2, 1) := by decide +kernel
theorem d_prog_92_method_3_8 : decode prog_92_method_3_code 8 = .ok (.ifCond .lt 32, 3) := by decide +kernel
theorem d_prog_92_method_3_40 : decode prog_92_method_3_code 40 = .ok (.aload_n 0, 1) := by decide +kernel
theorem d_prog_92_method_3_41 : decode prog_92_method_3_code 41 = .ok (.getfield 26, 3) := by decide +kernel
theorem d_prog_92_method_3_44 : decode prog_92_method_3_code 44 = .ok (.areturn, 1) := by decide +kernel
theorem d_prog_92_method_3_11 : decode prog_92_method_3_code 11 = .ok (.iload_n 2, 1) := by decide +kernel
theorem d_prog_92_method_3_12 : decode prog_92_method_3_code 12 = .ok (.aload_n 0, 1) := by decide +kernel
theorem d_prog_92_method_3_13 : decode prog_92_method_3_code 13 = .ok (.getfield 7, 3) := by decide +kernel
theorem d_prog_92_method_3_16 : decode prog_92_method_3_code 16 = .ok (.invokeinterface 38 1, 5) := by decide +kernel
theorem pd_14 : parseMethodDescriptor "()I" = some ⟨[], some .int⟩ := by decide +kernel
theorem d_prog_92_method_3_21 : decode prog_92_method_3_code 21 = .ok (.if_icmp .ge 19, 3) := by decide +kernel
theorem d_prog_92_method_2_0 : decode prog_92_method_2_code 0 = .ok (.aload_n 0, 1) := by decide +kernel
theorem d_prog_92_method_2_1 : decode prog_92_method_2_code 1 = .ok (.iconst 0, 1) := by decide +kernel
theorem d_prog_92_method_2_2 : decode prog_92_method_2_code 2 = .ok (.invokevirtual 30, 3) := by decide +kernel
theorem pd_15 : parseMethodDescriptor "(I)Lcom/example/nasute/nasute/sql/Token;" = some ⟨[.int], some (.object "com/example/nasute/nasute/sql/Token")⟩ := by decide +kernel
theorem d_prog_92_method_2_5 : decode prog_92_method_2_code 5 = .ok (.areturn, 1) := by decide +kernel
theorem d_prog_92_method_4_0 : decode prog_92_method_4_code 0 = .ok (.aload_n 0, 1) := by decide +kernel
theorem d_prog_92_method_4_1 : decode prog_92_method_4_code 1 = .ok (.invokevirtual 48, 3) := by decide +kernel
theorem pd_16 : parseMethodDescriptor "()Lcom/example/nasute/nasute/sql/Token;" = some ⟨[], some (.object "com/example/nasute/nasute/sql/Token")⟩ := by decide +kernel
theorem d_prog_92_method_4_4 : decode prog_92_method_4_code 4 = .ok (.astore_n 1, 1) := by decide +kernel
theorem d_prog_92_method_4_5 : decode prog_92_method_4_code 5 = .ok (.aload_n 1, 1) := by decide +kernel
theorem d_prog_92_method_4_6 : decode prog_92_method_4_code 6 = .ok (.aload_n 0, 1) := by decide +kernel
theorem d_prog_92_method_4_7 : decode prog_92_method_4_code 7 = .ok (.getfield 26, 3) := by decide +kernel
theorem d_prog_92_method_4_10 : decode prog_92_method_4_code 10 = .ok (.if_acmp .eq 13, 3) := by decide +kernel
theorem d_prog_92_method_4_23 : decode prog_92_method_4_code 23 = .ok (.aload_n 1, 1) := by decide +kernel
theorem d_prog_92_method_4_24 : decode prog_92_method_4_code 24 = .ok (.areturn, 1) := by decide +kernel
theorem d_prog_92_method_3_24 : decode prog_92_method_3_code 24 = .ok (.aload_n 0, 1) := by decide +kernel
theorem d_prog_92_method_3_25 : decode prog_92_method_3_code 25 = .ok (.getfield 7, 3) := by decide +kernel
theorem d_prog_92_method_3_28 : decode prog_92_method_3_code 28 = .ok (.iload_n 2, 1) := by decide +kernel
theorem d_prog_92_method_3_29 : decode prog_92_method_3_code 29 = .ok (.invokeinterface 44 2, 5) := by decide +kernel
theorem d_prog_92_method_3_34 : decode prog_92_method_3_code 34 = .ok (.checkcast 13, 3) := by decide +kernel
theorem d_prog_92_method_3_37 : decode prog_92_method_3_code 37 = .ok (.goto 7, 3) := by decide +kernel
theorem d_prog_92_method_4_13 : decode prog_92_method_4_code 13 = .ok (.aload_n 0, 1) := by decide +kernel
theorem d_prog_92_method_4_14 : decode prog_92_method_4_code 14 = .ok (.dup, 1) := by decide +kernel
theorem d_prog_92_method_4_15 : decode prog_92_method_4_code 15 = .ok (.getfield 34, 3) := by decide +kernel
theorem d_prog_92_method_4_18 : decode prog_92_method_4_code 18 = .ok (.iconst 1, 1) := by decide +kernel
theorem d_prog_92_method_4_19 : decode prog_92_method_4_code 19 = .ok (.iadd, 1) := by decide +kernel
theorem d_prog_92_method_4_20 : decode prog_92_method_4_code 20 = .ok (.putfield 34, 3) := by decide +kernel
theorem pd_17 : parseMethodDescriptor "(II)Lcom/example/nasute/nasute/sql/Token;" = some ⟨[.int, .int], some (.object "com/example/nasute/nasute/sql/Token")⟩ := by decide +kernel
theorem pd_18 : parseMethodDescriptor "(Lcom/example/nasute/nasute/sql/Token;)Z" = some ⟨[(.object "com/example/nasute/nasute/sql/Token")], some .boolean⟩ := by decide +kernel
theorem pd_19 : parseMethodDescriptor "(Ljava/lang/Object;)Z" = some ⟨[(.object "java/lang/Object")], some .boolean⟩ := by decide +kernel
def QRec (Z : State) (a : Addr) (h0 : Heap) (n0 : Nat) (v : Option Value) (h : Heap) (L : List Loc) : Prop := v = none ∧ Fr n0 L ∧ h = h0
theorem ef_Rec (m : MethodId) (a : Addr) : entryFrame m #[(.ref a)] 1 = mkF m 0 #[.val (.ref a)] [] := by first | (simp [entryFrame, mkF, argsToLocals, Value.category]; done) | rfl | (rfl)
set_option maxRecDepth 65536 in
set_option maxHeartbeats 40000000 in
theorem rmRec (l : Launch) (Z : State) (a0 : Array Value) (hw : ∀ d ∈ tables_1, d.before a0 Z = true) (ws : List Jvm.Cond) (a : Addr) (h0 : Heap) (n0 : Nat) (O : Old Z n0 h0)  :
    MetFree l (⟨"java/lang/Record", "<init>", "()V"⟩ : MethodName) (head1 (Jvm.Cond.code (⟨"java/lang/Record", "<init>", "()V"⟩ : MethodName) jdk_30_method_1_code 1 none :: ws) ({ frames := 1, cells := 0, slots := 0, locals := 12 } : Room)) (fun as_ U => as_ = #[(.ref a)] ∧ Z.Warmed39 U.vm ∧ U.heap = h0) (fun _ _ _ _ _ => True) (fun _ U oo_ U' => ∃ vv_ LL_, oo_ = .returned vv_ ∧ QRec Z a h0 n0 vv_ U'.heap LL_ ∧ FrameEnd U oo_ U' LL_ ({ frames := 1, cells := 0, slots := 0, locals := 12 } : Room).cells ({ frames := 1, cells := 0, slots := 0, locals := 12 } : Room).slots) := by
  refine MetFree.of_bodySF (plainFor_of_name pn_0) hisR ?_
  intro p e s m args below meth c s₁ Bd hml0 hP hK
  obtain ⟨rfl, hZ, hh⟩ := hP
  have hx := Bd.exec
  have hby := Bd.bytes
  have hml : c.maxLocals = 1 := hml0
  have hown : s.vm.findClass "java/lang/Record" = some m.cls := findClass_of_methodNamed Bd.named
  have hnm := (name_of_methodNamed Bd.named Bd.method).1
  have X0 : Stand p l e ({ frames := 1, cells := 0, slots := 0, locals := 12 } : Room) s m #[(.ref a)] below meth c s₁ [] 0 0 := Stand.of_body Bd
  have e0 : s₁.heap = h0 := by rw [← hh, Bd.state]; rfl
  have N := Fr.nil n0
  have K : Keep h0 h0 [] := Keep.refl h0 _
  refine own_go (B := s₁.setTop (mkF m 0 #[.val (.ref a)] [])) (fun t k => castTop (ef_Rec m a) k) ?_
  refine own_abs (fun P hfin => ?_)
  refine own_go (B := s₁.setTop (mkF m 1 #[.val (.ref a)] [(.ref a)])) (fun t k => ?_) ?_
  · show Steps p.tables e below (s₁.setTop (mkF m 0 #[.val (.ref a)] [])) _
    refine XS.aloadN X0.here hx rfl (hb hby d_jdk_30_method_1_0) rfl rfl ?_
    show Steps p.tables e below (s₁.setTop (mkF m 1 #[.val (.ref a)] [(.ref a)])) _
    exact k
  obtain ⟨T1, X1, e1, st1⟩ := initO X0 hx hZ hown (hw _ (own_g (i := 47) rfl)) (hw _ (own_g (i := 24) rfl)) (hw _ (own_g (i := 25) rfl)) e0 (g := (mkF m 1 #[.val (.ref a)] [(.ref a)])) rfl (by rw [hml]; rfl) rfl (hb hby d_jdk_30_method_1_1) (by decide) (W := 0) (by show 2 * 0 + _ ≤ _; exact Nat.le_of_eq rfl) (by decide)
  refine own_go (B := T1.setTop (mkF m 4 #[.val (.ref a)] [])) st1 ?_
  obtain ⟨fs, hr, hrun, hended, hW, hsame⟩ := X1.leave (v := none) (fun _ => rfl)
  refine ⟨_, _, X1.returnOut hx Bd.returns (hb hby d_jdk_30_method_1_4) hr, hfin _ _ ⟨hrun, hended, _, _, rfl, ?_, ⟨_, rfl⟩, hW, hsame.mono (by decide) (by decide)⟩⟩
  show QRec Z a h0 n0 _ T1.heap _
  exact ⟨rfl, N, e1⟩
def QCan (Z : State) (cc : Int32) (h0 : Heap) (n0 : Nat) (v : Option Value) (h : Heap) (L : List Loc) : Prop := v = some (.int (1 : Int32)) ∧ Fr n0 L ∧ h = h0
theorem ef_Can (m : MethodId) (cc : Int32) : entryFrame m #[(.int cc)] 1 = mkF m 0 #[.val (.int cc)] [] := by first | (simp [entryFrame, mkF, argsToLocals, Value.category]; done) | rfl | (rfl)
set_option maxRecDepth 65536 in
set_option maxHeartbeats 40000000 in
theorem rmCan (l : Launch) (Z : State) (a0 : Array Value) (hw : ∀ d ∈ tables_1, d.before a0 Z = true) (ws : List Jvm.Cond) (cc : Int32) (h0 : Heap) (n0 : Nat) (O : Old Z n0 h0) (hc : ¬ (255 : Int32) < cc) :
    MetFree l (⟨"java/lang/StringLatin1", "canEncode", "(C)Z"⟩ : MethodName) (head1 (Jvm.Cond.code (⟨"java/lang/StringLatin1", "canEncode", "(C)Z"⟩ : MethodName) jdk_43_method_3_code 1 (some .boolean) :: ws) ({ frames := 0, cells := 0, slots := 0, locals := 0 } : Room)) (fun as_ U => as_ = #[(.int cc)] ∧ Z.Warmed39 U.vm ∧ U.heap = h0) (fun _ _ _ _ _ => True) (fun _ U oo_ U' => ∃ vv_ LL_, oo_ = .returned vv_ ∧ QCan Z cc h0 n0 vv_ U'.heap LL_ ∧ FrameEnd U oo_ U' LL_ ({ frames := 0, cells := 0, slots := 0, locals := 0 } : Room).cells ({ frames := 0, cells := 0, slots := 0, locals := 0 } : Room).slots) := by
  refine MetFree.of_bodySF (plainFor_of_name pn_1) hisR ?_
  intro p e s m args below meth c s₁ Bd hml0 hP hK
  obtain ⟨rfl, hZ, hh⟩ := hP
  have hx := Bd.exec
  have hby := Bd.bytes
  have hml : c.maxLocals = 1 := hml0
  have hown : s.vm.findClass "java/lang/StringLatin1" = some m.cls := findClass_of_methodNamed Bd.named
  have hnm := (name_of_methodNamed Bd.named Bd.method).1
  have X0 : Stand p l e ({ frames := 0, cells := 0, slots := 0, locals := 0 } : Room) s m #[(.int cc)] below meth c s₁ [] 0 0 := Stand.of_body Bd
  have e0 : s₁.heap = h0 := by rw [← hh, Bd.state]; rfl
  have N := Fr.nil n0
  have K : Keep h0 h0 [] := Keep.refl h0 _
  refine own_go (B := s₁.setTop (mkF m 0 #[.val (.int cc)] [])) (fun t k => castTop (ef_Can m cc) k) ?_
  refine own_abs (fun P hfin => ?_)
  refine own_go (B := s₁.setTop (mkF m 12 #[.val (.int cc)] [(.int (1 : Int32))])) (fun t k => ?_) ?_
  · show Steps p.tables e below (s₁.setTop (mkF m 0 #[.val (.int cc)] [])) _
    refine XS.iloadN X0.here hx rfl (hb hby d_jdk_43_method_3_0) rfl ?_
    show Steps p.tables e below (s₁.setTop (mkF m 1 #[.val (.int cc)] [(.int cc)])) _
    refine XS.sipush X0.here hx rfl (hb hby d_jdk_43_method_3_1) ?_
    show Steps p.tables e below (s₁.setTop (mkF m 4 #[.val (.int cc)] [(.int (255 : Int32)), (.int cc)])) _
    refine XS.icmpNo X0.here hx rfl (hb hby d_jdk_43_method_3_4) rfl (flt hc).2.2.1 ?_
    show Steps p.tables e below (s₁.setTop (mkF m 7 #[.val (.int cc)] [])) _
    refine XS.iconst X0.here hx rfl (hb hby d_jdk_43_method_3_7) ?_
    show Steps p.tables e below (s₁.setTop (mkF m 8 #[.val (.int cc)] [(.int (1 : Int32))])) _
    refine XS.goto X0.here hx rfl (pc0 := 8) (pc' := 12) rfl (hb hby d_jdk_43_method_3_8) (by decide) (by decide) ?_
    show Steps p.tables e below (s₁.setTop (mkF m 12 #[.val (.int cc)] [(.int (1 : Int32))])) _
    exact k
  obtain ⟨fs, hr, hrun, hended, hW, hsame⟩ := X0.leave (v := some (.int (1 : Int32))) (fun h => by rw [Bd.returns] at h; cases h)
  refine ⟨_, _, retN X0 hx (t := .boolean) Bd.returns (by simp) (hb hby d_jdk_43_method_3_12) hr, hfin _ _ ⟨hrun, hended, _, _, rfl, ?_, ⟨_, rfl⟩, hW, hsame.mono (by decide) (by decide)⟩⟩
  show QCan Z cc h0 n0 _ s₁.heap _
  exact ⟨rfl, N, e0⟩
def QToB (Z : State) (cc : Int32) (h0 : Heap) (n0 : Nat) (v : Option Value) (h : Heap) (L : List Loc) : Prop := ∃ r : Addr, ∃ k : ClassId, v = some (.ref r) ∧ Fr n0 L ∧ Keep h0 h [] ∧ h0.size ≤ r ∧ Arv Z h r k .byte (1 : Int32) (own_bs [cc]) (.int (0 : Int32))
theorem ef_ToB (m : MethodId) (cc : Int32) : entryFrame m #[(.int cc)] 1 = mkF m 0 #[.val (.int cc)] [] := by first | (simp [entryFrame, mkF, argsToLocals, Value.category]; done) | rfl | (rfl)
set_option maxRecDepth 65536 in
set_option maxHeartbeats 40000000 in
theorem rmToB (l : Launch) (Z : State) (a0 : Array Value) (hw : ∀ d ∈ tables_1, d.before a0 Z = true) (ws : List Jvm.Cond) (cc : Int32) (h0 : Heap) (n0 : Nat) (O : Old Z n0 h0)  :
    MetFree l (⟨"java/lang/StringLatin1", "toBytes", "(C)[B"⟩ : MethodName) (head1 (Jvm.Cond.code (⟨"java/lang/StringLatin1", "toBytes", "(C)[B"⟩ : MethodName) jdk_43_method_46_code 1 (some (.array .byte)) :: ws) ({ frames := 0, cells := 1, slots := 1, locals := 0 } : Room)) (fun as_ U => as_ = #[(.int cc)] ∧ Z.Warmed39 U.vm ∧ U.heap = h0) (fun _ _ _ _ _ => True) (fun _ U oo_ U' => ∃ vv_ LL_, oo_ = .returned vv_ ∧ QToB Z cc h0 n0 vv_ U'.heap LL_ ∧ FrameEnd U oo_ U' LL_ ({ frames := 0, cells := 1, slots := 1, locals := 0 } : Room).cells ({ frames := 0, cells := 1, slots := 1, locals := 0 } : Room).slots) := by
  refine MetFree.of_bodySF (plainFor_of_name pn_1) hisR ?_
  intro p e s m args below meth c s₁ Bd hml0 hP hK
  obtain ⟨rfl, hZ, hh⟩ := hP
  have hx := Bd.exec
  have hby := Bd.bytes
  have hml : c.maxLocals = 1 := hml0
  have hown : s.vm.findClass "java/lang/StringLatin1" = some m.cls := findClass_of_methodNamed Bd.named
  have hnm := (name_of_methodNamed Bd.named Bd.method).1
  have X0 : Stand p l e ({ frames := 0, cells := 1, slots := 1, locals := 0 } : Room) s m #[(.int cc)] below meth c s₁ [] 0 0 := Stand.of_body Bd
  have e0 : s₁.heap = h0 := by rw [← hh, Bd.state]; rfl
  have N := Fr.nil n0
  have K : Keep h0 h0 [] := Keep.refl h0 _
  refine own_go (B := s₁.setTop (mkF m 0 #[.val (.int cc)] [])) (fun t k => castTop (ef_ToB m cc) k) ?_
  refine own_abs (fun P hfin => ?_)
  refine own_go (B := s₁.setTop (mkF m 1 #[.val (.int cc)] [(.int (1 : Int32))])) (fun t k => ?_) ?_
  · show Steps p.tables e below (s₁.setTop (mkF m 0 #[.val (.int cc)] [])) _
    refine XS.iconst X0.here hx rfl (hb hby d_jdk_43_method_46_0) ?_
    show Steps p.tables e below (s₁.setTop (mkF m 1 #[.val (.int cc)] [(.int (1 : Int32))])) _
    exact k
  obtain ⟨T1, h1, k1, X1, e1, E1, A1, G1, st1⟩ := newPE X0 hx hZ (hw _ (own_g (i := 18) rfl)) e0 (g := (mkF m 1 #[.val (.int cc)] [(.int (1 : Int32))])) rfl (hb hby d_jdk_43_method_46_1) rfl (by decide) (cap := 1) (by decide) (by decide) (by decide) (by decide) (ad := "[B") (by decide)
  obtain ⟨b1, g1⟩ : ∃ z, z = h0.size := ⟨_, rfl⟩
  rw [← g1] at A1 G1 st1
  have g_b1 : n0 ≤ b1 := Nat.le_trans (own_oldsz O) (Nat.le_of_eq g1.symm)
  have s_b1 : h0.size ≤ b1 := Nat.le_trans K.1 (Nat.le_of_eq g1.symm)
  replace O := O.ext E1
  replace K := K.ext E1
  have V1 : Arv Z h1 b1 k1 .byte (1 : Int32) [(.int (0 : Int32))] (.int (0 : Int32)) := (Arv.new A1 (by decide)).pad (pad_rep [] (.int (0 : Int32)) 1)
  refine own_go (B := T1.setTop (mkF m 3 #[.val (.int cc)] [(.ref b1)])) st1 ?_
  refine own_go (B := T1.setTop (mkF m 7 #[.val (.int cc)] [(.int (cc.toInt8.toInt32)), (.int (0 : Int32)), (.ref b1), (.ref b1)])) (fun t k => ?_) ?_
  · show Steps p.tables e below (T1.setTop (mkF m 3 #[.val (.int cc)] [(.ref b1)])) _
    refine XS.dup X1.here hx rfl (hb hby d_jdk_43_method_46_3) rfl rfl ?_
    show Steps p.tables e below (T1.setTop (mkF m 4 #[.val (.int cc)] [(.ref b1), (.ref b1)])) _
    refine XS.iconst X1.here hx rfl (hb hby d_jdk_43_method_46_4) ?_
    show Steps p.tables e below (T1.setTop (mkF m 5 #[.val (.int cc)] [(.int (0 : Int32)), (.ref b1), (.ref b1)])) _
    refine XS.iloadN X1.here hx rfl (hb hby d_jdk_43_method_46_5) rfl ?_
    show Steps p.tables e below (T1.setTop (mkF m 6 #[.val (.int cc)] [(.int cc), (.int (0 : Int32)), (.ref b1), (.ref b1)])) _
    refine XS.i2b X1.here hx rfl (hb hby d_jdk_43_method_46_6) rfl ?_
    show Steps p.tables e below (T1.setTop (mkF m 7 #[.val (.int cc)] [(.int (cc.toInt8.toInt32)), (.int (0 : Int32)), (.ref b1), (.ref b1)])) _
    exact k
  obtain ⟨cl2, Ar2, q2, Sz2, Nn2, Hs2, Gt2⟩ := V1
  have hin2 : ¬ ((0 : Int32) < 0 ∨ cl2.slots.size ≤ ((0 : Int32)).toNatClampNeg) := inb_of Sz2 ⟨by decide, by decide⟩
  obtain ⟨T2, h2, X2, e2, W2, st2⟩ := stB X1 hx hZ e1 Ar2 (j := (0 : Int32)) hin2 (g := (mkF m 7 #[.val (.int cc)] [(.int (cc.toInt8.toInt32)), (.int (0 : Int32)), (.ref b1), (.ref b1)])) rfl rfl (hb hby d_jdk_43_method_46_7)
  have V2 := Arv.set Ar2 q2 Sz2 Nn2 Hs2 Gt2 (fits_nar_byte _) W2 0 rfl (Nat.le_of_ble_eq_true rfl)
  rw [own_nb2] at V2
  have V2 : Arv Z h2 b1 k1 .byte (1 : Int32) [(.int cc.toInt8.toInt32)] (.int (0 : Int32)) := V2
  replace G1 := G1.wr W2
  replace O := O.wr W2 g_b1
  replace K := K.wr W2 (Or.inr s_b1)
  replace N := Fr.snoc X2 N g_b1
  refine own_go (B := T2.setTop (mkF m 8 #[.val (.int cc)] [(.ref b1)])) st2 ?_
  obtain ⟨fs, hr, hrun, hended, hW, hsame⟩ := X2.leave (v := some (.ref b1)) (fun h => by rw [Bd.returns] at h; cases h)
  refine ⟨_, _, own_retA X2 hx rfl Bd.returns rfl (hb hby d_jdk_43_method_46_8) hr, hfin _ _ ⟨hrun, hended, _, _, rfl, ?_, ⟨_, rfl⟩, hW, hsame.mono (by decide) (by decide)⟩⟩
  show QToB Z cc h0 n0 _ T2.heap _
  rw [e2]
  exact ⟨b1, k1, rfl, N, K, s_b1, V2⟩
def QSBB (Z : State) (a : Addr) (b : Addr) (h0 : Heap) (n0 : Nat) (v : Option Value) (h : Heap) (L : List Loc) : Prop := v = none ∧ Fr n0 L ∧ Keep h0 h [a] ∧ Fld Z h a "java/lang/String" "value" "[B" (.ref b) ∧ Fld Z h a "java/lang/String" "coder" "B" (.int (0 : Int32))
theorem ef_SBB (m : MethodId) (a : Addr) (b : Addr) : entryFrame m #[(.ref a), (.ref b), (.int (0 : Int32))] 3 = mkF m 0 #[.val (.ref a), .val (.ref b), .val (.int (0 : Int32))] [] := by first | (simp [entryFrame, mkF, argsToLocals, Value.category]; done) | rfl | (rfl)
set_option maxRecDepth 65536 in
set_option maxHeartbeats 40000000 in
theorem rmSBB (l : Launch) (Z : State) (a0 : Array Value) (hw : ∀ d ∈ tables_1, d.before a0 Z = true) (ws : List Jvm.Cond) (a : Addr) (b : Addr) (h0 : Heap) (n0 : Nat) (O : Old Z n0 h0) (E : Exa Z h0 a "java/lang/String") (F1 : Fld Z h0 a "java/lang/String" "value" "[B" .null) (F2 : Fld Z h0 a "java/lang/String" "coder" "B" (.int (0 : Int32))) (ga : n0 ≤ a) :
    MetFree l (⟨"java/lang/String", "<init>", "([BB)V"⟩ : MethodName) (head1 (Jvm.Cond.code (⟨"java/lang/String", "<init>", "([BB)V"⟩ : MethodName) jdk_42_method_151_code 3 none :: ws) ({ frames := 1, cells := 0, slots := 0, locals := 12 } : Room)) (fun as_ U => as_ = #[(.ref a), (.ref b), (.int (0 : Int32))] ∧ Z.Warmed39 U.vm ∧ U.heap = h0) (fun _ _ _ _ _ => True) (fun _ U oo_ U' => ∃ vv_ LL_, oo_ = .returned vv_ ∧ QSBB Z a b h0 n0 vv_ U'.heap LL_ ∧ FrameEnd U oo_ U' LL_ ({ frames := 1, cells := 0, slots := 0, locals := 12 } : Room).cells ({ frames := 1, cells := 0, slots := 0, locals := 12 } : Room).slots) := by
  refine MetFree.of_bodySF (plainFor_of_name pn_2) hisR ?_
  intro p e s m args below meth c s₁ Bd hml0 hP hK
  obtain ⟨rfl, hZ, hh⟩ := hP
  have hx := Bd.exec
  have hby := Bd.bytes
  have hml : c.maxLocals = 3 := hml0
  have hown : s.vm.findClass "java/lang/String" = some m.cls := findClass_of_methodNamed Bd.named
  have hnm := (name_of_methodNamed Bd.named Bd.method).1
  have X0 : Stand p l e ({ frames := 1, cells := 0, slots := 0, locals := 12 } : Room) s m #[(.ref a), (.ref b), (.int (0 : Int32))] below meth c s₁ [] 0 0 := Stand.of_body Bd
  have e0 : s₁.heap = h0 := by rw [← hh, Bd.state]; rfl
  have N := Fr.nil n0
  have K : Keep h0 h0 [a] := Keep.refl h0 _
  refine own_go (B := s₁.setTop (mkF m 0 #[.val (.ref a), .val (.ref b), .val (.int (0 : Int32))] [])) (fun t k => castTop (ef_SBB m a b) k) ?_
  refine own_abs (fun P hfin => ?_)
  refine own_go (B := s₁.setTop (mkF m 1 #[.val (.ref a), .val (.ref b), .val (.int (0 : Int32))] [(.ref a)])) (fun t k => ?_) ?_
  · show Steps p.tables e below (s₁.setTop (mkF m 0 #[.val (.ref a), .val (.ref b), .val (.int (0 : Int32))] [])) _
    refine XS.aloadN X0.here hx rfl (hb hby d_jdk_42_method_151_0) rfl rfl ?_
    show Steps p.tables e below (s₁.setTop (mkF m 1 #[.val (.ref a), .val (.ref b), .val (.int (0 : Int32))] [(.ref a)])) _
    exact k
  obtain ⟨T1, X1, e1, st1⟩ := initO X0 hx hZ hown (hw _ (own_g (i := 23) rfl)) (hw _ (own_g (i := 24) rfl)) (hw _ (own_g (i := 25) rfl)) e0 (g := (mkF m 1 #[.val (.ref a), .val (.ref b), .val (.int (0 : Int32))] [(.ref a)])) rfl (by rw [hml]; rfl) rfl (hb hby d_jdk_42_method_151_1) (by decide) (W := 0) (by show 2 * 0 + _ ≤ _; exact Nat.le_of_eq rfl) (by decide)
  refine own_go (B := T1.setTop (mkF m 4 #[.val (.ref a), .val (.ref b), .val (.int (0 : Int32))] [])) st1 ?_
  refine own_go (B := T1.setTop (mkF m 6 #[.val (.ref a), .val (.ref b), .val (.int (0 : Int32))] [(.ref b), (.ref a)])) (fun t k => ?_) ?_
  · show Steps p.tables e below (T1.setTop (mkF m 4 #[.val (.ref a), .val (.ref b), .val (.int (0 : Int32))] [])) _
    refine XS.aloadN X1.here hx rfl (hb hby d_jdk_42_method_151_4) rfl rfl ?_
    show Steps p.tables e below (T1.setTop (mkF m 5 #[.val (.ref a), .val (.ref b), .val (.int (0 : Int32))] [(.ref a)])) _
    refine XS.aloadN X1.here hx rfl (hb hby d_jdk_42_method_151_5) rfl rfl ?_
    show Steps p.tables e below (T1.setTop (mkF m 6 #[.val (.ref a), .val (.ref b), .val (.int (0 : Int32))] [(.ref b), (.ref a)])) _
    exact k
  obtain ⟨T2, h2, X2, e2, W2, st2⟩ := putF X1 hx hZ hown (host := "") (Or.inl (hw _ (own_g (i := 26) rfl))) Via.refl e1 F1 E (Or.inr ⟨(hw _ (own_g (i := 27) rfl)), rfl, hnm⟩) (hw _ (own_g (i := 14) rfl)) (ty := (.array .byte)) (by decide) rfl rfl (g := (mkF m 6 #[.val (.ref a), .val (.ref b), .val (.int (0 : Int32))] [(.ref b), (.ref a)])) rfl rfl (hb hby d_jdk_42_method_151_6)
  have Fw2 := F1.same W2
  replace E := E.wr W2
  clear F1
  replace F2 := F2.other W2 (Or.inr (slot_ne (Or.inr (hw _ (own_g (i := 29) rfl))) (Or.inr (hw _ (own_g (i := 27) rfl))) (by decide) (t := .byte) (t' := (.array .byte)) (by decide) (by decide)))
  replace O := O.wr W2 ga
  replace K := K.wr W2 (Or.inl (own_g (i := 0) rfl))
  replace N := Fr.snoc X2 N ga
  refine own_go (B := T2.setTop (mkF m 9 #[.val (.ref a), .val (.ref b), .val (.int (0 : Int32))] [])) st2 ?_
  refine own_go (B := T2.setTop (mkF m 11 #[.val (.ref a), .val (.ref b), .val (.int (0 : Int32))] [(.int (0 : Int32)), (.ref a)])) (fun t k => ?_) ?_
  · show Steps p.tables e below (T2.setTop (mkF m 9 #[.val (.ref a), .val (.ref b), .val (.int (0 : Int32))] [])) _
    refine XS.aloadN X2.here hx rfl (hb hby d_jdk_42_method_151_9) rfl rfl ?_
    show Steps p.tables e below (T2.setTop (mkF m 10 #[.val (.ref a), .val (.ref b), .val (.int (0 : Int32))] [(.ref a)])) _
    refine XS.iloadN X2.here hx rfl (hb hby d_jdk_42_method_151_10) rfl ?_
    show Steps p.tables e below (T2.setTop (mkF m 11 #[.val (.ref a), .val (.ref b), .val (.int (0 : Int32))] [(.int (0 : Int32)), (.ref a)])) _
    exact k
  obtain ⟨T3, h3, X3, e3, W3, st3⟩ := putFN X2 hx hZ hown (hw _ (own_g (i := 28) rfl)) Via.refl e2 F2 E (Or.inr ⟨(hw _ (own_g (i := 29) rfl)), rfl, hnm⟩) (hw _ (own_g (i := 14) rfl)) (ty := .byte) (v' := (.int (0 : Int32))) (by decide) rfl rfl (g := (mkF m 11 #[.val (.ref a), .val (.ref b), .val (.int (0 : Int32))] [(.int (0 : Int32)), (.ref a)])) rfl rfl (hb hby d_jdk_42_method_151_11)
  have Fw3 := F2.same W3
  replace E := E.wr W3
  clear F2
  replace Fw2 := Fw2.other W3 (Or.inr (slot_ne (Or.inr (hw _ (own_g (i := 27) rfl))) (Or.inr (hw _ (own_g (i := 29) rfl))) (by decide) (t := (.array .byte)) (t' := .byte) (by decide) (by decide)))
  replace O := O.wr W3 ga
  replace K := K.wr W3 (Or.inl (own_g (i := 0) rfl))
  replace N := Fr.snoc X3 N ga
  refine own_go (B := T3.setTop (mkF m 14 #[.val (.ref a), .val (.ref b), .val (.int (0 : Int32))] [])) st3 ?_
  obtain ⟨fs, hr, hrun, hended, hW, hsame⟩ := X3.leave (v := none) (fun _ => rfl)
  refine ⟨_, _, X3.returnOut hx Bd.returns (hb hby d_jdk_42_method_151_14) hr, hfin _ _ ⟨hrun, hended, _, _, rfl, ?_, ⟨_, rfl⟩, hW, hsame.mono (by decide) (by decide)⟩⟩
  show QSBB Z a b h0 n0 _ T3.heap _
  rw [e3]
  exact ⟨rfl, N, K, Fw2, Fw3⟩
def QVO (Z : State) (cc : Int32) (zc : Int32) (h0 : Heap) (n0 : Nat) (v : Option Value) (h : Heap) (L : List Loc) : Prop := ∃ r : Addr, ∃ t : Addr, ∃ k : ClassId, v = some (.ref r) ∧ Fr n0 L ∧ Keep h0 h [] ∧ h0.size ≤ r ∧ h0.size ≤ t ∧ Exa Z h r "java/lang/String" ∧ Fld Z h r "java/lang/String" "coder" "B" (.int (0 : Int32)) ∧ Fld Z h r "java/lang/String" "value" "[B" (.ref t) ∧ Arv Z h t k .byte (1 : Int32) (own_bs [cc]) (.int (0 : Int32))
theorem ef_VO (m : MethodId) (cc : Int32) : entryFrame m #[(.int cc)] 1 = mkF m 0 #[.val (.int cc)] [] := by first | (simp [entryFrame, mkF, argsToLocals, Value.category]; done) | rfl | (rfl)
set_option maxRecDepth 65536 in
set_option maxHeartbeats 40000000 in
theorem rmVO (l : Launch) (Z : State) (a0 : Array Value) (hw : ∀ d ∈ tables_1, d.before a0 Z = true) (ws : List Jvm.Cond) (cc : Int32) (zc : Int32) (h0 : Heap) (n0 : Nat) (O : Old Z n0 h0) (S_C : Sta Z Z.heap "java/lang/String" "COMPACT_STRINGS" "Z" (.int zc)) (hc : ¬ (255 : Int32) < cc) (hcs : ¬ zc = (0 : Int32)) :
    MetFree l (⟨"java/lang/String", "valueOf", "(C)Ljava/lang/String;"⟩ : MethodName) (head1 (Jvm.Cond.code (⟨"java/lang/String", "valueOf", "(C)Ljava/lang/String;"⟩ : MethodName) jdk_42_method_139_code 1 (some (.object "java/lang/String")) :: ws) ({ frames := 2, cells := 2, slots := 5, locals := 27 } : Room)) (fun as_ U => as_ = #[(.int cc)] ∧ Z.Warmed39 U.vm ∧ U.heap = h0) (fun _ _ _ _ _ => True) (fun _ U oo_ U' => ∃ vv_ LL_, oo_ = .returned vv_ ∧ QVO Z cc zc h0 n0 vv_ U'.heap LL_ ∧ FrameEnd U oo_ U' LL_ ({ frames := 2, cells := 2, slots := 5, locals := 27 } : Room).cells ({ frames := 2, cells := 2, slots := 5, locals := 27 } : Room).slots) := by
  refine MetFree.of_bodySF (plainFor_of_name pn_2) hisR ?_
  intro p e s m args below meth c s₁ Bd hml0 hP hK
  obtain ⟨rfl, hZ, hh⟩ := hP
  have hx := Bd.exec
  have hby := Bd.bytes
  have hml : c.maxLocals = 1 := hml0
  have hown : s.vm.findClass "java/lang/String" = some m.cls := findClass_of_methodNamed Bd.named
  have hnm := (name_of_methodNamed Bd.named Bd.method).1
  have X0 : Stand p l e ({ frames := 2, cells := 2, slots := 5, locals := 27 } : Room) s m #[(.int cc)] below meth c s₁ [] 0 0 := Stand.of_body Bd
  have e0 : s₁.heap = h0 := by rw [← hh, Bd.state]; rfl
  have N := Fr.nil n0
  have K : Keep h0 h0 [] := Keep.refl h0 _
  refine own_go (B := s₁.setTop (mkF m 0 #[.val (.int cc)] [])) (fun t k => castTop (ef_VO m cc) k) ?_
  refine own_abs (fun P hfin => ?_)
  obtain ⟨T1, X1, e1, st1⟩ := getS2 X0 hx hZ hown (host := "") (Or.inl (hw _ (own_g (i := 8) rfl))) Via.refl e0 (S_C.ext O.2) (g := (mkF m 0 #[.val (.int cc)] [])) rfl (hb hby d_jdk_42_method_139_0)
  refine own_go (B := T1.setTop (mkF m 3 #[.val (.int cc)] [(.int zc)])) st1 ?_
  refine own_go (B := T1.setTop (mkF m 7 #[.val (.int cc)] [(.int cc)])) (fun t k => ?_) ?_
  · show Steps p.tables e below (T1.setTop (mkF m 3 #[.val (.int cc)] [(.int zc)])) _
    refine XS.ifNo X1.here hx rfl (hb hby d_jdk_42_method_139_3) rfl ((if0 _ _).trans (feq hcs).1) ?_
    show Steps p.tables e below (T1.setTop (mkF m 6 #[.val (.int cc)] [])) _
    refine XS.iloadN X1.here hx rfl (hb hby d_jdk_42_method_139_6) rfl ?_
    show Steps p.tables e below (T1.setTop (mkF m 7 #[.val (.int cc)] [(.int cc)])) _
    exact k
  -- pc 7: java/lang/StringLatin1.canEncode
  obtain ⟨_, _, ⟨T2, L2, k2, n2⟩, -, X2, ⟨Lc2, hQ2, l2, y2, z2⟩, st2⟩ := Jvm.LawKit.callS X1 hx (y := (⟨"java/lang/StringLatin1", "canEncode", "(C)Z"⟩ : MethodName)) hown (mvT hZ (hw _ (own_g (i := 9) rfl))) (mvT hZ (hw _ (own_g (i := 10) rfl))) (mvT hZ (hw _ (own_g (i := 11) rfl))) (mvT hZ (hw _ (own_g (i := 12) rfl))) (by decide) (backOf (W := 0) (rmCan l Z a0 hw [] cc h0 n0 O hc) hZ (hw _ (own_g (i := 12) rfl)) (hw _ (own_g (i := 11) rfl)) (by decide) (by decide)) (g := (mkF m 7 #[.val (.int cc)] [(.int cc)])) rfl (by rw [hml]; rfl) (argsL := [(.int cc)]) (rest := []) (lenOf pd_0 rfl) rfl (by show 2 * 0 + _ ≤ _; exact Nat.le_of_eq rfl) (hb hby d_jdk_42_method_139_7) (fun _ hWm => ⟨rfl, e1, (by decide : 0 + 0 ≤ _), (by decide : 0 + 0 ≤ _)⟩)
  dsimp only [Pt.U, Pt.locs, Pt.cells, Pt.slots] at X2 l2 y2 z2 st2 hQ2
  subst l2 y2 z2
  obtain ⟨rfl, Nq2, Kq2⟩ := hQ2
  replace N := Fr.app N Nq2
  refine own_go (B := T2.setTop (mkF m 10 #[.val (.int cc)] [(.int (1 : Int32))])) st2 ?_
  refine own_go (B := T2.setTop (mkF m 13 #[.val (.int cc)] [])) (fun t k => ?_) ?_
  · show Steps p.tables e below (T2.setTop (mkF m 10 #[.val (.int cc)] [(.int (1 : Int32))])) _
    refine XS.ifNo X2.here hx rfl (hb hby d_jdk_42_method_139_10) rfl ((if0 _ _).trans (feq (by decide)).1) ?_
    show Steps p.tables e below (T2.setTop (mkF m 13 #[.val (.int cc)] [])) _
    exact k
  obtain ⟨T3, h3, X3, e3, E3, A3, D3, -, st3⟩ := newO X2 hx hZ hown (hw _ (own_g (i := 13) rfl)) (hw _ (own_g (i := 14) rfl)) (hw _ (own_g (i := 6) rfl)) Kq2 (g := (mkF m 13 #[.val (.int cc)] [])) rfl (hb hby d_jdk_42_method_139_13) (by decide) (by decide)
  obtain ⟨b3, g3⟩ : ∃ z, z = h0.size := ⟨_, rfl⟩
  rw [← g3] at A3 D3 st3
  have g_b3 : n0 ≤ b3 := Nat.le_trans (own_oldsz O) (Nat.le_of_eq g3.symm)
  have s_b3 : h0.size ≤ b3 := Nat.le_trans K.1 (Nat.le_of_eq g3.symm)
  replace O := O.ext E3
  replace K := K.ext E3
  have F3_value : Fld Z h3 b3 "java/lang/String" "value" "[B" .null := D3 (Or.inr (hw _ (own_g (i := 27) rfl))) (ty := (.array .byte)) (by decide)
  have F3_coder : Fld Z h3 b3 "java/lang/String" "coder" "B" (.int (0 : Int32)) := D3 (Or.inr (hw _ (own_g (i := 29) rfl))) (ty := .byte) (by decide)
  refine own_go (B := T3.setTop (mkF m 16 #[.val (.int cc)] [(.ref b3)])) st3 ?_
  refine own_go (B := T3.setTop (mkF m 18 #[.val (.int cc)] [(.int cc), (.ref b3), (.ref b3)])) (fun t k => ?_) ?_
  · show Steps p.tables e below (T3.setTop (mkF m 16 #[.val (.int cc)] [(.ref b3)])) _
    refine XS.dup X3.here hx rfl (hb hby d_jdk_42_method_139_16) rfl rfl ?_
    show Steps p.tables e below (T3.setTop (mkF m 17 #[.val (.int cc)] [(.ref b3), (.ref b3)])) _
    refine XS.iloadN X3.here hx rfl (hb hby d_jdk_42_method_139_17) rfl ?_
    show Steps p.tables e below (T3.setTop (mkF m 18 #[.val (.int cc)] [(.int cc), (.ref b3), (.ref b3)])) _
    exact k
  -- pc 18: java/lang/StringLatin1.toBytes
  obtain ⟨_, _, ⟨T4, L4, k4, n4⟩, -, X4, ⟨Lc4, hQ4, l4, y4, z4⟩, st4⟩ := Jvm.LawKit.callS X3 hx (y := (⟨"java/lang/StringLatin1", "toBytes", "(C)[B"⟩ : MethodName)) hown (mvT hZ (hw _ (own_g (i := 15) rfl))) (mvT hZ (hw _ (own_g (i := 16) rfl))) (mvT hZ (hw _ (own_g (i := 11) rfl))) (mvT hZ (hw _ (own_g (i := 17) rfl))) (by decide) (backOf (W := 2) (rmToB l Z a0 hw [] cc h3 n0 O ) hZ (hw _ (own_g (i := 17) rfl)) (hw _ (own_g (i := 11) rfl)) (by decide) (by decide)) (g := (mkF m 18 #[.val (.int cc)] [(.int cc), (.ref b3), (.ref b3)])) rfl (by rw [hml]; rfl) (argsL := [(.int cc)]) (rest := [(.ref b3), (.ref b3)]) (lenOf pd_1 rfl) rfl (by show 2 * 0 + _ ≤ _; exact Nat.le_of_eq rfl) (hb hby d_jdk_42_method_139_18) (fun _ hWm => ⟨rfl, e3, (by decide : 1 + 1 ≤ _), (by decide : 4 + 1 ≤ _)⟩)
  dsimp only [Pt.U, Pt.locs, Pt.cells, Pt.slots] at X4 l4 y4 z4 st4 hQ4
  subst l4 y4 z4
  obtain ⟨r4, k4, rfl, Nq4, Kq4, fq4_r, Gq4_0⟩ := hQ4
  replace N := Fr.app N Nq4
  have lt_b3_r4 : b3 < r4 := Nat.lt_of_lt_of_le A3.lt fq4_r
  have g_r4 : n0 ≤ r4 := Nat.le_trans (own_oldsz O) fq4_r
  have s_r4 : h0.size ≤ r4 := Nat.le_trans K.1 fq4_r
  replace A3 := A3.keep Kq4
  replace F3_value := F3_value.keep Kq4 nin0
  replace F3_coder := F3_coder.keep Kq4 nin0
  replace O := O.keep Kq4 all0
  replace K := K.trans Kq4 all0
  refine own_go (B := T4.setTop (mkF m 21 #[.val (.int cc)] [(.ref r4), (.ref b3), (.ref b3)])) st4 ?_
  refine own_go (B := T4.setTop (mkF m 22 #[.val (.int cc)] [(.int (0 : Int32)), (.ref r4), (.ref b3), (.ref b3)])) (fun t k => ?_) ?_
  · show Steps p.tables e below (T4.setTop (mkF m 21 #[.val (.int cc)] [(.ref r4), (.ref b3), (.ref b3)])) _
    refine XS.iconst X4.here hx rfl (hb hby d_jdk_42_method_139_21) ?_
    show Steps p.tables e below (T4.setTop (mkF m 22 #[.val (.int cc)] [(.int (0 : Int32)), (.ref r4), (.ref b3), (.ref b3)])) _
    exact k
  -- pc 22: java/lang/String.<init>
  obtain ⟨_, _, ⟨T5, L5, k5, n5⟩, -, X5, ⟨Lc5, hQ5, l5, y5, z5⟩, st5⟩ := X4.specialBack hx (y := (⟨"java/lang/String", "<init>", "([BB)V"⟩ : MethodName)) rfl hown (mvT hZ (hw _ (own_g (i := 19) rfl))) (mvT hZ (hw _ (own_g (i := 20) rfl))) (mvT hZ (hw _ (own_g (i := 22) rfl))) (by decide) (backOf (W := 1) (rmSBB l Z a0 hw [] b3 r4 T4.heap n0 O A3 F3_value F3_coder g_b3) hZ (hw _ (own_g (i := 22) rfl)) (hw _ (own_g (i := 6) rfl)) (by decide) (by decide)) (g := (mkF m 22 #[.val (.int cc)] [(.int (0 : Int32)), (.ref r4), (.ref b3), (.ref b3)])) rfl (by rw [hml]; rfl) (Steps.refl _) (a := b3) (argsL := [(.ref r4), (.int (0 : Int32))]) (rest := [(.ref b3)]) (lenOf pd_2 rfl) rfl (by show 2 * 0 + _ ≤ _; exact Nat.le_of_eq rfl) (hb hby d_jdk_42_method_139_22) (fun _ hWm => ⟨rfl, rfl, (by decide : 2 + 0 ≤ _), (by decide : 5 + 0 ≤ _)⟩)
  dsimp only [Pt.U, Pt.locs, Pt.cells, Pt.slots] at X5 l5 y5 z5 st5 hQ5
  subst l5 y5 z5
  obtain ⟨rfl, Nq5, Kq5, Gq5_0, Gq5_1⟩ := hQ5
  replace N := Fr.app N Nq5
  replace A3 := A3.keep Kq5
  clear F3_value
  clear F3_coder
  replace Gq4_0 := Gq4_0.keep Kq5 (ninS (Nat.ne_of_gt lt_b3_r4) nin0)
  replace O := O.keep Kq5 (allS g_b3 all0)
  replace K := K.trans Kq5 (allS (Or.inr s_b3) all0)
  refine own_go (B := T5.setTop (mkF m 25 #[.val (.int cc)] [(.ref b3)])) (fun t k => st5.trans k) ?_
  obtain ⟨fs, hr, hrun, hended, hW, hsame⟩ := X5.leave (v := some (.ref b3)) (fun h => by rw [Bd.returns] at h; cases h)
  refine ⟨_, _, own_retA X5 hx rfl Bd.returns rfl (hb hby d_jdk_42_method_139_25) hr, hfin _ _ ⟨hrun, hended, _, _, rfl, ?_, ⟨_, rfl⟩, hW, hsame.mono (by decide) (by decide)⟩⟩
  show QVO Z cc zc h0 n0 _ T5.heap _
  exact ⟨b3, r4, k4, rfl, N, K, s_b3, s_r4, A3, Gq5_1, Gq5_0, Gq4_0⟩
def QTkI (Z : State) (a : Addr) (ty : Addr) (sv : Addr) (p1 : Int32) (p2 : Int32) (h0 : Heap) (n0 : Nat) (v : Option Value) (h : Heap) (L : List Loc) : Prop := v = none ∧ Fr n0 L ∧ Keep h0 h [a]
theorem ef_TkI (m : MethodId) (a : Addr) (ty : Addr) (sv : Addr) (p1 : Int32) (p2 : Int32) : entryFrame m #[(.ref a), (.ref ty), (.ref sv), (.int p1), (.int p2)] 5 = mkF m 0 #[.val (.ref a), .val (.ref ty), .val (.ref sv), .val (.int p1), .val (.int p2)] [] := by first | (simp [entryFrame, mkF, argsToLocals, Value.category]; done) | rfl | (rfl)
set_option maxRecDepth 65536 in
set_option maxHeartbeats 40000000 in
theorem rmTkI (l : Launch) (Z : State) (a0 : Array Value) (hw : ∀ d ∈ tables_1, d.before a0 Z = true) (ws : List Jvm.Cond) (a : Addr) (ty : Addr) (sv : Addr) (p1 : Int32) (p2 : Int32) (h0 : Heap) (n0 : Nat) (O : Old Z n0 h0) (E : Exa Z h0 a "com/example/nasute/nasute/sql/Token") (F0 : Fld Z h0 a "com/example/nasute/nasute/sql/Token" "type" "Lcom/example/nasute/nasute/sql/Token$Type;" .null) (F1 : Fld Z h0 a "com/example/nasute/nasute/sql/Token" "value" "Ljava/lang/String;" .null) (F2 : Fld Z h0 a "com/example/nasute/nasute/sql/Token" "offset" "I" (.int (0 : Int32))) (F3 : Fld Z h0 a "com/example/nasute/nasute/sql/Token" "end" "I" (.int (0 : Int32))) (ga : n0 ≤ a) :
    MetFree l (⟨"com/example/nasute/nasute/sql/Token", "<init>", "(Lcom/example/nasute/nasute/sql/Token$Type;Ljava/lang/String;II)V"⟩ : MethodName) (head1 (Jvm.Cond.code (⟨"com/example/nasute/nasute/sql/Token", "<init>", "(Lcom/example/nasute/nasute/sql/Token$Type;Ljava/lang/String;II)V"⟩ : MethodName) prog_90_method_1_code 5 none :: ws) ({ frames := 2, cells := 0, slots := 0, locals := 24 } : Room)) (fun as_ U => as_ = #[(.ref a), (.ref ty), (.ref sv), (.int p1), (.int p2)] ∧ Z.Warmed39 U.vm ∧ U.heap = h0) (fun _ _ _ _ _ => True) (fun _ U oo_ U' => ∃ vv_ LL_, oo_ = .returned vv_ ∧ QTkI Z a ty sv p1 p2 h0 n0 vv_ U'.heap LL_ ∧ FrameEnd U oo_ U' LL_ ({ frames := 2, cells := 0, slots := 0, locals := 24 } : Room).cells ({ frames := 2, cells := 0, slots := 0, locals := 24 } : Room).slots) := by
  refine MetFree.of_bodySF (plainFor_of_name pn_3) hisR ?_
  intro p e s m args below meth c s₁ Bd hml0 hP hK
  obtain ⟨rfl, hZ, hh⟩ := hP
  have hx := Bd.exec
  have hby := Bd.bytes
  have hml : c.maxLocals = 5 := hml0
  have hown : s.vm.findClass "com/example/nasute/nasute/sql/Token" = some m.cls := findClass_of_methodNamed Bd.named
  have hnm := (name_of_methodNamed Bd.named Bd.method).1
  have X0 : Stand p l e ({ frames := 2, cells := 0, slots := 0, locals := 24 } : Room) s m #[(.ref a), (.ref ty), (.ref sv), (.int p1), (.int p2)] below meth c s₁ [] 0 0 := Stand.of_body Bd
  have e0 : s₁.heap = h0 := by rw [← hh, Bd.state]; rfl
  have N := Fr.nil n0
  have K : Keep h0 h0 [a] := Keep.refl h0 _
  refine own_go (B := s₁.setTop (mkF m 0 #[.val (.ref a), .val (.ref ty), .val (.ref sv), .val (.int p1), .val (.int p2)] [])) (fun t k => castTop (ef_TkI m a ty sv p1 p2) k) ?_
  refine own_abs (fun P hfin => ?_)
  refine own_go (B := s₁.setTop (mkF m 1 #[.val (.ref a), .val (.ref ty), .val (.ref sv), .val (.int p1), .val (.int p2)] [(.ref a)])) (fun t k => ?_) ?_
  · show Steps p.tables e below (s₁.setTop (mkF m 0 #[.val (.ref a), .val (.ref ty), .val (.ref sv), .val (.int p1), .val (.int p2)] [])) _
    refine XS.aloadN X0.here hx rfl (hb hby d_prog_90_method_1_0) rfl rfl ?_
    show Steps p.tables e below (s₁.setTop (mkF m 1 #[.val (.ref a), .val (.ref ty), .val (.ref sv), .val (.int p1), .val (.int p2)] [(.ref a)])) _
    exact k
  -- pc 1: java/lang/Record.<init>
  obtain ⟨_, _, ⟨T1, L1, k1, n1⟩, -, X1, ⟨Lc1, hQ1, l1, y1, z1⟩, st1⟩ := X0.specialBack hx (y := (⟨"java/lang/Record", "<init>", "()V"⟩ : MethodName)) rfl hown (mvT hZ (hw _ (own_g (i := 42) rfl))) (mvT hZ (hw _ (own_g (i := 43) rfl))) (mvT hZ (hw _ (own_g (i := 46) rfl))) (by decide) (backOf (W := 0) (rmRec l Z a0 hw [] a h0 n0 O ) hZ (hw _ (own_g (i := 46) rfl)) (hw _ (own_g (i := 45) rfl)) (by decide) (by decide)) (g := (mkF m 1 #[.val (.ref a), .val (.ref ty), .val (.ref sv), .val (.int p1), .val (.int p2)] [(.ref a)])) rfl (by rw [hml]; rfl) (Steps.refl _) (a := a) (argsL := []) (rest := []) (lenOf pd_3 rfl) rfl (by show 2 * 0 + _ ≤ _; exact Nat.le_of_eq rfl) (hb hby d_prog_90_method_1_1) (fun _ hWm => ⟨rfl, e0, (by decide : 0 + 0 ≤ _), (by decide : 0 + 0 ≤ _)⟩)
  dsimp only [Pt.U, Pt.locs, Pt.cells, Pt.slots] at X1 l1 y1 z1 st1 hQ1
  subst l1 y1 z1
  obtain ⟨rfl, Nq1, Kq1⟩ := hQ1
  replace N := Fr.app N Nq1
  refine own_go (B := T1.setTop (mkF m 4 #[.val (.ref a), .val (.ref ty), .val (.ref sv), .val (.int p1), .val (.int p2)] [])) (fun t k => st1.trans k) ?_
  refine own_go (B := T1.setTop (mkF m 6 #[.val (.ref a), .val (.ref ty), .val (.ref sv), .val (.int p1), .val (.int p2)] [(.ref ty), (.ref a)])) (fun t k => ?_) ?_
  · show Steps p.tables e below (T1.setTop (mkF m 4 #[.val (.ref a), .val (.ref ty), .val (.ref sv), .val (.int p1), .val (.int p2)] [])) _
    refine XS.aloadN X1.here hx rfl (hb hby d_prog_90_method_1_4) rfl rfl ?_
    show Steps p.tables e below (T1.setTop (mkF m 5 #[.val (.ref a), .val (.ref ty), .val (.ref sv), .val (.int p1), .val (.int p2)] [(.ref a)])) _
    refine XS.aloadN X1.here hx rfl (hb hby d_prog_90_method_1_5) rfl rfl ?_
    show Steps p.tables e below (T1.setTop (mkF m 6 #[.val (.ref a), .val (.ref ty), .val (.ref sv), .val (.int p1), .val (.int p2)] [(.ref ty), (.ref a)])) _
    exact k
  obtain ⟨T2, h2, X2, e2, W2, st2⟩ := putF X1 hx hZ hown (host := "") (Or.inl (hw _ (own_g (i := 48) rfl))) Via.refl Kq1 F0 E (Or.inr ⟨(hw _ (own_g (i := 49) rfl)), rfl, hnm⟩) (hw _ (own_g (i := 31) rfl)) (ty := (.object "com/example/nasute/nasute/sql/Token$Type")) (by decide) rfl rfl (g := (mkF m 6 #[.val (.ref a), .val (.ref ty), .val (.ref sv), .val (.int p1), .val (.int p2)] [(.ref ty), (.ref a)])) rfl rfl (hb hby d_prog_90_method_1_6)
  have Fw2 := F0.same W2
  replace E := E.wr W2
  clear F0
  replace F1 := F1.other W2 (Or.inr (slot_ne (Or.inr (hw _ (own_g (i := 51) rfl))) (Or.inr (hw _ (own_g (i := 49) rfl))) (by decide) (t := (.object "java/lang/String")) (t' := (.object "com/example/nasute/nasute/sql/Token$Type")) (by decide) (by decide)))
  replace F2 := F2.other W2 (Or.inr (slot_ne (Or.inr (hw _ (own_g (i := 53) rfl))) (Or.inr (hw _ (own_g (i := 49) rfl))) (by decide) (t := .int) (t' := (.object "com/example/nasute/nasute/sql/Token$Type")) (by decide) (by decide)))
  replace F3 := F3.other W2 (Or.inr (slot_ne (Or.inr (hw _ (own_g (i := 55) rfl))) (Or.inr (hw _ (own_g (i := 49) rfl))) (by decide) (t := .int) (t' := (.object "com/example/nasute/nasute/sql/Token$Type")) (by decide) (by decide)))
  replace O := O.wr W2 ga
  replace K := K.wr W2 (Or.inl (own_g (i := 0) rfl))
  replace N := Fr.snoc X2 N ga
  refine own_go (B := T2.setTop (mkF m 9 #[.val (.ref a), .val (.ref ty), .val (.ref sv), .val (.int p1), .val (.int p2)] [])) st2 ?_
  refine own_go (B := T2.setTop (mkF m 11 #[.val (.ref a), .val (.ref ty), .val (.ref sv), .val (.int p1), .val (.int p2)] [(.ref sv), (.ref a)])) (fun t k => ?_) ?_
  · show Steps p.tables e below (T2.setTop (mkF m 9 #[.val (.ref a), .val (.ref ty), .val (.ref sv), .val (.int p1), .val (.int p2)] [])) _
    refine XS.aloadN X2.here hx rfl (hb hby d_prog_90_method_1_9) rfl rfl ?_
    show Steps p.tables e below (T2.setTop (mkF m 10 #[.val (.ref a), .val (.ref ty), .val (.ref sv), .val (.int p1), .val (.int p2)] [(.ref a)])) _
    refine XS.aloadN X2.here hx rfl (hb hby d_prog_90_method_1_10) rfl rfl ?_
    show Steps p.tables e below (T2.setTop (mkF m 11 #[.val (.ref a), .val (.ref ty), .val (.ref sv), .val (.int p1), .val (.int p2)] [(.ref sv), (.ref a)])) _
    exact k
  obtain ⟨T3, h3, X3, e3, W3, st3⟩ := putF X2 hx hZ hown (host := "") (Or.inl (hw _ (own_g (i := 50) rfl))) Via.refl e2 F1 E (Or.inr ⟨(hw _ (own_g (i := 51) rfl)), rfl, hnm⟩) (hw _ (own_g (i := 31) rfl)) (ty := (.object "java/lang/String")) (by decide) rfl rfl (g := (mkF m 11 #[.val (.ref a), .val (.ref ty), .val (.ref sv), .val (.int p1), .val (.int p2)] [(.ref sv), (.ref a)])) rfl rfl (hb hby d_prog_90_method_1_11)
  have Fw3 := F1.same W3
  replace E := E.wr W3
  clear F1
  replace F2 := F2.other W3 (Or.inr (slot_ne (Or.inr (hw _ (own_g (i := 53) rfl))) (Or.inr (hw _ (own_g (i := 51) rfl))) (by decide) (t := .int) (t' := (.object "java/lang/String")) (by decide) (by decide)))
  replace F3 := F3.other W3 (Or.inr (slot_ne (Or.inr (hw _ (own_g (i := 55) rfl))) (Or.inr (hw _ (own_g (i := 51) rfl))) (by decide) (t := .int) (t' := (.object "java/lang/String")) (by decide) (by decide)))
  replace Fw2 := Fw2.other W3 (Or.inr (slot_ne (Or.inr (hw _ (own_g (i := 49) rfl))) (Or.inr (hw _ (own_g (i := 51) rfl))) (by decide) (t := (.object "com/example/nasute/nasute/sql/Token$Type")) (t' := (.object "java/lang/String")) (by decide) (by decide)))
  replace O := O.wr W3 ga
  replace K := K.wr W3 (Or.inl (own_g (i := 0) rfl))
  replace N := Fr.snoc X3 N ga
  refine own_go (B := T3.setTop (mkF m 14 #[.val (.ref a), .val (.ref ty), .val (.ref sv), .val (.int p1), .val (.int p2)] [])) st3 ?_
  refine own_go (B := T3.setTop (mkF m 16 #[.val (.ref a), .val (.ref ty), .val (.ref sv), .val (.int p1), .val (.int p2)] [(.int p1), (.ref a)])) (fun t k => ?_) ?_
  · show Steps p.tables e below (T3.setTop (mkF m 14 #[.val (.ref a), .val (.ref ty), .val (.ref sv), .val (.int p1), .val (.int p2)] [])) _
    refine XS.aloadN X3.here hx rfl (hb hby d_prog_90_method_1_14) rfl rfl ?_
    show Steps p.tables e below (T3.setTop (mkF m 15 #[.val (.ref a), .val (.ref ty), .val (.ref sv), .val (.int p1), .val (.int p2)] [(.ref a)])) _
    refine XS.iloadN X3.here hx rfl (hb hby d_prog_90_method_1_15) rfl ?_
    show Steps p.tables e below (T3.setTop (mkF m 16 #[.val (.ref a), .val (.ref ty), .val (.ref sv), .val (.int p1), .val (.int p2)] [(.int p1), (.ref a)])) _
    exact k
  obtain ⟨T4, h4, X4, e4, W4, st4⟩ := putF X3 hx hZ hown (host := "") (Or.inl (hw _ (own_g (i := 52) rfl))) Via.refl e3 F2 E (Or.inr ⟨(hw _ (own_g (i := 53) rfl)), rfl, hnm⟩) (hw _ (own_g (i := 31) rfl)) (ty := .int) (by decide) rfl rfl (g := (mkF m 16 #[.val (.ref a), .val (.ref ty), .val (.ref sv), .val (.int p1), .val (.int p2)] [(.int p1), (.ref a)])) rfl rfl (hb hby d_prog_90_method_1_16)
  have Fw4 := F2.same W4
  replace E := E.wr W4
  clear F2
  replace F3 := F3.other W4 (Or.inr (slot_ne (Or.inr (hw _ (own_g (i := 55) rfl))) (Or.inr (hw _ (own_g (i := 53) rfl))) (by decide) (t := .int) (t' := .int) (by decide) (by decide)))
  replace Fw2 := Fw2.other W4 (Or.inr (slot_ne (Or.inr (hw _ (own_g (i := 49) rfl))) (Or.inr (hw _ (own_g (i := 53) rfl))) (by decide) (t := (.object "com/example/nasute/nasute/sql/Token$Type")) (t' := .int) (by decide) (by decide)))
  replace Fw3 := Fw3.other W4 (Or.inr (slot_ne (Or.inr (hw _ (own_g (i := 51) rfl))) (Or.inr (hw _ (own_g (i := 53) rfl))) (by decide) (t := (.object "java/lang/String")) (t' := .int) (by decide) (by decide)))
  replace O := O.wr W4 ga
  replace K := K.wr W4 (Or.inl (own_g (i := 0) rfl))
  replace N := Fr.snoc X4 N ga
  refine own_go (B := T4.setTop (mkF m 19 #[.val (.ref a), .val (.ref ty), .val (.ref sv), .val (.int p1), .val (.int p2)] [])) st4 ?_
  refine own_go (B := T4.setTop (mkF m 22 #[.val (.ref a), .val (.ref ty), .val (.ref sv), .val (.int p1), .val (.int p2)] [(.int p2), (.ref a)])) (fun t k => ?_) ?_
  · show Steps p.tables e below (T4.setTop (mkF m 19 #[.val (.ref a), .val (.ref ty), .val (.ref sv), .val (.int p1), .val (.int p2)] [])) _
    refine XS.aloadN X4.here hx rfl (hb hby d_prog_90_method_1_19) rfl rfl ?_
    show Steps p.tables e below (T4.setTop (mkF m 20 #[.val (.ref a), .val (.ref ty), .val (.ref sv), .val (.int p1), .val (.int p2)] [(.ref a)])) _
    refine XS.iload X4.here hx rfl (hb hby d_prog_90_method_1_20) rfl ?_
    show Steps p.tables e below (T4.setTop (mkF m 22 #[.val (.ref a), .val (.ref ty), .val (.ref sv), .val (.int p1), .val (.int p2)] [(.int p2), (.ref a)])) _
    exact k
  obtain ⟨T5, h5, X5, e5, W5, st5⟩ := putF X4 hx hZ hown (host := "") (Or.inl (hw _ (own_g (i := 54) rfl))) Via.refl e4 F3 E (Or.inr ⟨(hw _ (own_g (i := 55) rfl)), rfl, hnm⟩) (hw _ (own_g (i := 31) rfl)) (ty := .int) (by decide) rfl rfl (g := (mkF m 22 #[.val (.ref a), .val (.ref ty), .val (.ref sv), .val (.int p1), .val (.int p2)] [(.int p2), (.ref a)])) rfl rfl (hb hby d_prog_90_method_1_22)
  have Fw5 := F3.same W5
  replace E := E.wr W5
  clear F3
  replace Fw2 := Fw2.other W5 (Or.inr (slot_ne (Or.inr (hw _ (own_g (i := 49) rfl))) (Or.inr (hw _ (own_g (i := 55) rfl))) (by decide) (t := (.object "com/example/nasute/nasute/sql/Token$Type")) (t' := .int) (by decide) (by decide)))
  replace Fw3 := Fw3.other W5 (Or.inr (slot_ne (Or.inr (hw _ (own_g (i := 51) rfl))) (Or.inr (hw _ (own_g (i := 55) rfl))) (by decide) (t := (.object "java/lang/String")) (t' := .int) (by decide) (by decide)))
  replace Fw4 := Fw4.other W5 (Or.inr (slot_ne (Or.inr (hw _ (own_g (i := 53) rfl))) (Or.inr (hw _ (own_g (i := 55) rfl))) (by decide) (t := .int) (t' := .int) (by decide) (by decide)))
  replace O := O.wr W5 ga
  replace K := K.wr W5 (Or.inl (own_g (i := 0) rfl))
  replace N := Fr.snoc X5 N ga
  refine own_go (B := T5.setTop (mkF m 25 #[.val (.ref a), .val (.ref ty), .val (.ref sv), .val (.int p1), .val (.int p2)] [])) st5 ?_
  obtain ⟨fs, hr, hrun, hended, hW, hsame⟩ := X5.leave (v := none) (fun _ => rfl)
  refine ⟨_, _, X5.returnOut hx Bd.returns (hb hby d_prog_90_method_1_25) hr, hfin _ _ ⟨hrun, hended, _, _, rfl, ?_, ⟨_, rfl⟩, hW, hsame.mono (by decide) (by decide)⟩⟩
  show QTkI Z a ty sv p1 p2 h0 n0 _ T5.heap _
  rw [e5]
  exact ⟨rfl, N, K⟩
def QTyp (Z : State) (p1 : Int32) (w0 : Addr) (w1 : Addr) (w2 : Addr) (w3 : Addr) (w4 : Addr) (w5 : Addr) (h0 : Heap) (n0 : Nat) (v : Option Value) (h : Heap) (L : List Loc) : Prop := ∃ r : Addr, v = some (.ref r) ∧ Fr n0 L ∧ h = h0
theorem ef_Typ (m : MethodId) (p1 : Int32) : entryFrame m #[(.int p1)] 2 = mkF m 0 #[.val (.int p1), .unset] [] := by first | (simp [entryFrame, mkF, argsToLocals, Value.category]; done) | rfl | (rfl)
set_option maxRecDepth 65536 in
set_option maxHeartbeats 40000000 in
theorem rmTyp (l : Launch) (Z : State) (a0 : Array Value) (hw : ∀ d ∈ tables_1, d.before a0 Z = true) (ws : List Jvm.Cond) (p1 : Int32) (w0 : Addr) (w1 : Addr) (w2 : Addr) (w3 : Addr) (w4 : Addr) (w5 : Addr) (h0 : Heap) (n0 : Nat) (O : Old Z n0 h0) (S_0 : Sta Z Z.heap "com/example/nasute/nasute/sql/Token$Type" "WORD" "Lcom/example/nasute/nasute/sql/Token$Type;" (.ref w0)) (S_1 : Sta Z Z.heap "com/example/nasute/nasute/sql/Token$Type" "QUOTED_NAME" "Lcom/example/nasute/nasute/sql/Token$Type;" (.ref w1)) (S_2 : Sta Z Z.heap "com/example/nasute/nasute/sql/Token$Type" "STRING" "Lcom/example/nasute/nasute/sql/Token$Type;" (.ref w2)) (S_3 : Sta Z Z.heap "com/example/nasute/nasute/sql/Token$Type" "NUMBER" "Lcom/example/nasute/nasute/sql/Token$Type;" (.ref w3)) (S_4 : Sta Z Z.heap "com/example/nasute/nasute/sql/Token$Type" "VARIABLE" "Lcom/example/nasute/nasute/sql/Token$Type;" (.ref w4)) (S_5 : Sta Z Z.heap "com/example/nasute/nasute/sql/Token$Type" "SYMBOL" "Lcom/example/nasute/nasute/sql/Token$Type;" (.ref w5)) :
    MetFree l (⟨"com/example/nasute/nasute/sql/TokenCursorIsTextEndPinLaw", "type", "(I)Lcom/example/nasute/nasute/sql/Token$Type;"⟩ : MethodName) (head1 (Jvm.Cond.code (⟨"com/example/nasute/nasute/sql/TokenCursorIsTextEndPinLaw", "type", "(I)Lcom/example/nasute/nasute/sql/Token$Type;"⟩ : MethodName) method_4_code 2 (some (.object "com/example/nasute/nasute/sql/Token$Type")) :: ws) ({ frames := 0, cells := 0, slots := 0, locals := 0 } : Room)) (fun as_ U => as_ = #[(.int p1)] ∧ Z.Warmed39 U.vm ∧ U.heap = h0) (fun _ _ _ _ _ => True) (fun _ U oo_ U' => ∃ vv_ LL_, oo_ = .returned vv_ ∧ QTyp Z p1 w0 w1 w2 w3 w4 w5 h0 n0 vv_ U'.heap LL_ ∧ FrameEnd U oo_ U' LL_ ({ frames := 0, cells := 0, slots := 0, locals := 0 } : Room).cells ({ frames := 0, cells := 0, slots := 0, locals := 0 } : Room).slots) := by
  refine MetFree.of_bodySF (plainFor_of_name pn_4) hisR ?_
  intro p e s m args below meth c s₁ Bd hml0 hP hK
  obtain ⟨rfl, hZ, hh⟩ := hP
  have hx := Bd.exec
  have hby := Bd.bytes
  have hml : c.maxLocals = 2 := hml0
  have hown : s.vm.findClass "com/example/nasute/nasute/sql/TokenCursorIsTextEndPinLaw" = some m.cls := findClass_of_methodNamed Bd.named
  have hnm := (name_of_methodNamed Bd.named Bd.method).1
  have X0 : Stand p l e ({ frames := 0, cells := 0, slots := 0, locals := 0 } : Room) s m #[(.int p1)] below meth c s₁ [] 0 0 := Stand.of_body Bd
  have e0 : s₁.heap = h0 := by rw [← hh, Bd.state]; rfl
  have N := Fr.nil n0
  have K : Keep h0 h0 [] := Keep.refl h0 _
  refine own_go (B := s₁.setTop (mkF m 0 #[.val (.int p1), .unset] [])) (fun t k => castTop (ef_Typ m p1) k) ?_
  refine own_abs (fun P hfin => ?_)
  refine own_go (B := s₁.setTop (mkF m 8 #[.val (.int p1), .val (.int ((p1 &&& (7 : Int32)) % (6 : Int32)))] [])) (fun t k => ?_) ?_
  · show Steps p.tables e below (s₁.setTop (mkF m 0 #[.val (.int p1), .unset] [])) _
    refine XS.iloadN X0.here hx rfl (hb hby d_method_4_0) rfl ?_
    show Steps p.tables e below (s₁.setTop (mkF m 1 #[.val (.int p1), .unset] [(.int p1)])) _
    refine XS.bipush X0.here hx rfl (hb hby d_method_4_1) ?_
    show Steps p.tables e below (s₁.setTop (mkF m 3 #[.val (.int p1), .unset] [(.int (7 : Int32)), (.int p1)])) _
    refine XS.iand X0.here hx rfl (hb hby d_method_4_3) rfl ?_
    show Steps p.tables e below (s₁.setTop (mkF m 4 #[.val (.int p1), .unset] [(.int (p1 &&& (7 : Int32)))])) _
    refine XS.bipush X0.here hx rfl (hb hby d_method_4_4) ?_
    show Steps p.tables e below (s₁.setTop (mkF m 6 #[.val (.int p1), .unset] [(.int (6 : Int32)), (.int (p1 &&& (7 : Int32)))])) _
    refine Jvm.RoadKit.iremM (g := (mkF m 6 #[.val (.int p1), .unset] [(.int (6 : Int32)), (.int (p1 &&& (7 : Int32)))])) X0 hx rfl (hb hby d_method_4_6) rfl (by decide) ?_
    show Steps p.tables e below (s₁.setTop (mkF m 7 #[.val (.int p1), .unset] [(.int ((p1 &&& (7 : Int32)) % (6 : Int32)))])) _
    refine XS.istoreN X0.here hx rfl (hb hby d_method_4_7) rfl (l' := #[.val (.int p1), .val (.int ((p1 &&& (7 : Int32)) % (6 : Int32)))]) rfl ?_
    show Steps p.tables e below (s₁.setTop (mkF m 8 #[.val (.int p1), .val (.int ((p1 &&& (7 : Int32)) % (6 : Int32)))] [])) _
    exact k
  obtain ⟨sx, hsx⟩ : ∃ z : Int32, z = ((p1 &&& (7 : Int32)) % (6 : Int32)) := ⟨_, rfl⟩
  rw [← hsx]
  refine own_go (B := s₁.setTop (mkF m 9 #[.val (.int p1), .val (.int sx)] [(.int sx)])) (fun t k => ?_) ?_
  · show Steps p.tables e below (s₁.setTop (mkF m 8 #[.val (.int p1), .val (.int sx)] [])) _
    refine XS.iloadN X0.here hx rfl (hb hby d_method_4_8) rfl ?_
    show Steps p.tables e below (s₁.setTop (mkF m 9 #[.val (.int p1), .val (.int sx)] [(.int sx)])) _
    exact k
  by_cases c0 : sx = (0 : Int32)
  · refine own_go (B := s₁.setTop (mkF m 12 #[.val (.int p1), .val (.int sx)] [])) (fun t k => ?_) ?_
    · show Steps p.tables e below (s₁.setTop (mkF m 9 #[.val (.int p1), .val (.int sx)] [(.int sx)])) _
      refine XS.ifNo X0.here hx rfl (hb hby d_method_4_9) rfl ((if0 _ _).trans (teq c0).2) ?_
      show Steps p.tables e below (s₁.setTop (mkF m 12 #[.val (.int p1), .val (.int sx)] [])) _
      exact k
    obtain ⟨T1, X1, e1, st1⟩ := getS2 X0 hx hZ hown (host := "") (Or.inl (hw _ (own_g (i := 56) rfl))) Via.refl e0 (S_0.ext O.2) (g := (mkF m 12 #[.val (.int p1), .val (.int sx)] [])) rfl (hb hby d_method_4_12)
    refine own_go (B := T1.setTop (mkF m 15 #[.val (.int p1), .val (.int sx)] [(.ref w0)])) st1 ?_
    obtain ⟨fs, hr, hrun, hended, hW, hsame⟩ := X1.leave (v := some (.ref w0)) (fun h => by rw [Bd.returns] at h; cases h)
    refine ⟨_, _, own_retA X1 hx rfl Bd.returns rfl (hb hby d_method_4_15) hr, hfin _ _ ⟨hrun, hended, _, _, rfl, ?_, ⟨_, rfl⟩, hW, hsame.mono (by decide) (by decide)⟩⟩
    show QTyp Z p1 w0 w1 w2 w3 w4 w5 h0 n0 _ T1.heap _
    exact ⟨w0, rfl, N, e1⟩
  · refine own_go (B := s₁.setTop (mkF m 18 #[.val (.int p1), .val (.int sx)] [(.int (1 : Int32)), (.int sx)])) (fun t k => ?_) ?_
    · show Steps p.tables e below (s₁.setTop (mkF m 9 #[.val (.int p1), .val (.int sx)] [(.int sx)])) _
      refine XS.ifYes X0.here hx rfl (pc0 := 9) (pc' := 16) rfl (hb hby d_method_4_9) rfl ((if0 _ _).trans (feq c0).2) (by decide) (by decide) ?_
      show Steps p.tables e below (s₁.setTop (mkF m 16 #[.val (.int p1), .val (.int sx)] [])) _
      refine XS.iloadN X0.here hx rfl (hb hby d_method_4_16) rfl ?_
      show Steps p.tables e below (s₁.setTop (mkF m 17 #[.val (.int p1), .val (.int sx)] [(.int sx)])) _
      refine XS.iconst X0.here hx rfl (hb hby d_method_4_17) ?_
      show Steps p.tables e below (s₁.setTop (mkF m 18 #[.val (.int p1), .val (.int sx)] [(.int (1 : Int32)), (.int sx)])) _
      exact k
    by_cases c1 : sx = (1 : Int32)
    · refine own_go (B := s₁.setTop (mkF m 21 #[.val (.int p1), .val (.int sx)] [])) (fun t k => ?_) ?_
      · show Steps p.tables e below (s₁.setTop (mkF m 18 #[.val (.int p1), .val (.int sx)] [(.int (1 : Int32)), (.int sx)])) _
        refine XS.icmpNo X0.here hx rfl (hb hby d_method_4_18) rfl (teq c1).2 ?_
        show Steps p.tables e below (s₁.setTop (mkF m 21 #[.val (.int p1), .val (.int sx)] [])) _
        exact k
      obtain ⟨T3, X3, e3, st3⟩ := getS2 X0 hx hZ hown (host := "") (Or.inl (hw _ (own_g (i := 136) rfl))) Via.refl e0 (S_1.ext O.2) (g := (mkF m 21 #[.val (.int p1), .val (.int sx)] [])) rfl (hb hby d_method_4_21)
      refine own_go (B := T3.setTop (mkF m 24 #[.val (.int p1), .val (.int sx)] [(.ref w1)])) st3 ?_
      obtain ⟨fs, hr, hrun, hended, hW, hsame⟩ := X3.leave (v := some (.ref w1)) (fun h => by rw [Bd.returns] at h; cases h)
      refine ⟨_, _, own_retA X3 hx rfl Bd.returns rfl (hb hby d_method_4_24) hr, hfin _ _ ⟨hrun, hended, _, _, rfl, ?_, ⟨_, rfl⟩, hW, hsame.mono (by decide) (by decide)⟩⟩
      show QTyp Z p1 w0 w1 w2 w3 w4 w5 h0 n0 _ T3.heap _
      exact ⟨w1, rfl, N, e3⟩
    · refine own_go (B := s₁.setTop (mkF m 27 #[.val (.int p1), .val (.int sx)] [(.int (2 : Int32)), (.int sx)])) (fun t k => ?_) ?_
      · show Steps p.tables e below (s₁.setTop (mkF m 18 #[.val (.int p1), .val (.int sx)] [(.int (1 : Int32)), (.int sx)])) _
        refine XS.icmpYes X0.here hx rfl (pc0 := 18) (pc' := 25) rfl (hb hby d_method_4_18) rfl (feq c1).2 (by decide) (by decide) ?_
        show Steps p.tables e below (s₁.setTop (mkF m 25 #[.val (.int p1), .val (.int sx)] [])) _
        refine XS.iloadN X0.here hx rfl (hb hby d_method_4_25) rfl ?_
        show Steps p.tables e below (s₁.setTop (mkF m 26 #[.val (.int p1), .val (.int sx)] [(.int sx)])) _
        refine XS.iconst X0.here hx rfl (hb hby d_method_4_26) ?_
        show Steps p.tables e below (s₁.setTop (mkF m 27 #[.val (.int p1), .val (.int sx)] [(.int (2 : Int32)), (.int sx)])) _
        exact k
      by_cases c2 : sx = (2 : Int32)
      · refine own_go (B := s₁.setTop (mkF m 30 #[.val (.int p1), .val (.int sx)] [])) (fun t k => ?_) ?_
        · show Steps p.tables e below (s₁.setTop (mkF m 27 #[.val (.int p1), .val (.int sx)] [(.int (2 : Int32)), (.int sx)])) _
          refine XS.icmpNo X0.here hx rfl (hb hby d_method_4_27) rfl (teq c2).2 ?_
          show Steps p.tables e below (s₁.setTop (mkF m 30 #[.val (.int p1), .val (.int sx)] [])) _
          exact k
        obtain ⟨T5, X5, e5, st5⟩ := getS2 X0 hx hZ hown (host := "") (Or.inl (hw _ (own_g (i := 133) rfl))) Via.refl e0 (S_2.ext O.2) (g := (mkF m 30 #[.val (.int p1), .val (.int sx)] [])) rfl (hb hby d_method_4_30)
        refine own_go (B := T5.setTop (mkF m 33 #[.val (.int p1), .val (.int sx)] [(.ref w2)])) st5 ?_
        obtain ⟨fs, hr, hrun, hended, hW, hsame⟩ := X5.leave (v := some (.ref w2)) (fun h => by rw [Bd.returns] at h; cases h)
        refine ⟨_, _, own_retA X5 hx rfl Bd.returns rfl (hb hby d_method_4_33) hr, hfin _ _ ⟨hrun, hended, _, _, rfl, ?_, ⟨_, rfl⟩, hW, hsame.mono (by decide) (by decide)⟩⟩
        show QTyp Z p1 w0 w1 w2 w3 w4 w5 h0 n0 _ T5.heap _
        exact ⟨w2, rfl, N, e5⟩
      · refine own_go (B := s₁.setTop (mkF m 36 #[.val (.int p1), .val (.int sx)] [(.int (3 : Int32)), (.int sx)])) (fun t k => ?_) ?_
        · show Steps p.tables e below (s₁.setTop (mkF m 27 #[.val (.int p1), .val (.int sx)] [(.int (2 : Int32)), (.int sx)])) _
          refine XS.icmpYes X0.here hx rfl (pc0 := 27) (pc' := 34) rfl (hb hby d_method_4_27) rfl (feq c2).2 (by decide) (by decide) ?_
          show Steps p.tables e below (s₁.setTop (mkF m 34 #[.val (.int p1), .val (.int sx)] [])) _
          refine XS.iloadN X0.here hx rfl (hb hby d_method_4_34) rfl ?_
          show Steps p.tables e below (s₁.setTop (mkF m 35 #[.val (.int p1), .val (.int sx)] [(.int sx)])) _
          refine XS.iconst X0.here hx rfl (hb hby d_method_4_35) ?_
          show Steps p.tables e below (s₁.setTop (mkF m 36 #[.val (.int p1), .val (.int sx)] [(.int (3 : Int32)), (.int sx)])) _
          exact k
        by_cases c3 : sx = (3 : Int32)
        · refine own_go (B := s₁.setTop (mkF m 39 #[.val (.int p1), .val (.int sx)] [])) (fun t k => ?_) ?_
          · show Steps p.tables e below (s₁.setTop (mkF m 36 #[.val (.int p1), .val (.int sx)] [(.int (3 : Int32)), (.int sx)])) _
            refine XS.icmpNo X0.here hx rfl (hb hby d_method_4_36) rfl (teq c3).2 ?_
            show Steps p.tables e below (s₁.setTop (mkF m 39 #[.val (.int p1), .val (.int sx)] [])) _
            exact k
          obtain ⟨T7, X7, e7, st7⟩ := getS2 X0 hx hZ hown (host := "") (Or.inl (hw _ (own_g (i := 36) rfl))) Via.refl e0 (S_3.ext O.2) (g := (mkF m 39 #[.val (.int p1), .val (.int sx)] [])) rfl (hb hby d_method_4_39)
          refine own_go (B := T7.setTop (mkF m 42 #[.val (.int p1), .val (.int sx)] [(.ref w3)])) st7 ?_
          obtain ⟨fs, hr, hrun, hended, hW, hsame⟩ := X7.leave (v := some (.ref w3)) (fun h => by rw [Bd.returns] at h; cases h)
          refine ⟨_, _, own_retA X7 hx rfl Bd.returns rfl (hb hby d_method_4_42) hr, hfin _ _ ⟨hrun, hended, _, _, rfl, ?_, ⟨_, rfl⟩, hW, hsame.mono (by decide) (by decide)⟩⟩
          show QTyp Z p1 w0 w1 w2 w3 w4 w5 h0 n0 _ T7.heap _
          exact ⟨w3, rfl, N, e7⟩
        · refine own_go (B := s₁.setTop (mkF m 45 #[.val (.int p1), .val (.int sx)] [(.int (4 : Int32)), (.int sx)])) (fun t k => ?_) ?_
          · show Steps p.tables e below (s₁.setTop (mkF m 36 #[.val (.int p1), .val (.int sx)] [(.int (3 : Int32)), (.int sx)])) _
            refine XS.icmpYes X0.here hx rfl (pc0 := 36) (pc' := 43) rfl (hb hby d_method_4_36) rfl (feq c3).2 (by decide) (by decide) ?_
            show Steps p.tables e below (s₁.setTop (mkF m 43 #[.val (.int p1), .val (.int sx)] [])) _
            refine XS.iloadN X0.here hx rfl (hb hby d_method_4_43) rfl ?_
            show Steps p.tables e below (s₁.setTop (mkF m 44 #[.val (.int p1), .val (.int sx)] [(.int sx)])) _
            refine XS.iconst X0.here hx rfl (hb hby d_method_4_44) ?_
            show Steps p.tables e below (s₁.setTop (mkF m 45 #[.val (.int p1), .val (.int sx)] [(.int (4 : Int32)), (.int sx)])) _
            exact k
          by_cases c4 : sx = (4 : Int32)
          · refine own_go (B := s₁.setTop (mkF m 48 #[.val (.int p1), .val (.int sx)] [])) (fun t k => ?_) ?_
            · show Steps p.tables e below (s₁.setTop (mkF m 45 #[.val (.int p1), .val (.int sx)] [(.int (4 : Int32)), (.int sx)])) _
              refine XS.icmpNo X0.here hx rfl (hb hby d_method_4_45) rfl (teq c4).2 ?_
              show Steps p.tables e below (s₁.setTop (mkF m 48 #[.val (.int p1), .val (.int sx)] [])) _
              exact k
            obtain ⟨T9, X9, e9, st9⟩ := getS2 X0 hx hZ hown (host := "") (Or.inl (hw _ (own_g (i := 205) rfl))) Via.refl e0 (S_4.ext O.2) (g := (mkF m 48 #[.val (.int p1), .val (.int sx)] [])) rfl (hb hby d_method_4_48)
            refine own_go (B := T9.setTop (mkF m 51 #[.val (.int p1), .val (.int sx)] [(.ref w4)])) st9 ?_
            obtain ⟨fs, hr, hrun, hended, hW, hsame⟩ := X9.leave (v := some (.ref w4)) (fun h => by rw [Bd.returns] at h; cases h)
            refine ⟨_, _, own_retA X9 hx rfl Bd.returns rfl (hb hby d_method_4_51) hr, hfin _ _ ⟨hrun, hended, _, _, rfl, ?_, ⟨_, rfl⟩, hW, hsame.mono (by decide) (by decide)⟩⟩
            show QTyp Z p1 w0 w1 w2 w3 w4 w5 h0 n0 _ T9.heap _
            exact ⟨w4, rfl, N, e9⟩
          · refine own_go (B := s₁.setTop (mkF m 52 #[.val (.int p1), .val (.int sx)] [])) (fun t k => ?_) ?_
            · show Steps p.tables e below (s₁.setTop (mkF m 45 #[.val (.int p1), .val (.int sx)] [(.int (4 : Int32)), (.int sx)])) _
              refine XS.icmpYes X0.here hx rfl (pc0 := 45) (pc' := 52) rfl (hb hby d_method_4_45) rfl (feq c4).2 (by decide) (by decide) ?_
              show Steps p.tables e below (s₁.setTop (mkF m 52 #[.val (.int p1), .val (.int sx)] [])) _
              exact k
            obtain ⟨T11, X11, e11, st11⟩ := getS2 X0 hx hZ hown (host := "") (Or.inl (hw _ (own_g (i := 135) rfl))) Via.refl e0 (S_5.ext O.2) (g := (mkF m 52 #[.val (.int p1), .val (.int sx)] [])) rfl (hb hby d_method_4_52)
            refine own_go (B := T11.setTop (mkF m 55 #[.val (.int p1), .val (.int sx)] [(.ref w5)])) st11 ?_
            obtain ⟨fs, hr, hrun, hended, hW, hsame⟩ := X11.leave (v := some (.ref w5)) (fun h => by rw [Bd.returns] at h; cases h)
            refine ⟨_, _, own_retA X11 hx rfl Bd.returns rfl (hb hby d_method_4_55) hr, hfin _ _ ⟨hrun, hended, _, _, rfl, ?_, ⟨_, rfl⟩, hW, hsame.mono (by decide) (by decide)⟩⟩
            show QTyp Z p1 w0 w1 w2 w3 w4 w5 h0 n0 _ T11.heap _
            exact ⟨w5, rfl, N, e11⟩
def QTok (Z : State) (p1 : Int32) (p2 : Int32) (w0 : Addr) (w1 : Addr) (w2 : Addr) (w3 : Addr) (w4 : Addr) (w5 : Addr) (zc : Int32) (h0 : Heap) (n0 : Nat) (v : Option Value) (h : Heap) (L : List Loc) : Prop := ∃ r : Addr, v = some (.ref r) ∧ Fr n0 L ∧ Keep h0 h [] ∧ h0.size ≤ r ∧ Exa Z h r "com/example/nasute/nasute/sql/Token"
theorem ef_Tok (m : MethodId) (p1 : Int32) (p2 : Int32) : entryFrame m #[(.int p1), (.int p2)] 4 = mkF m 0 #[.val (.int p1), .val (.int p2), .unset, .unset] [] := by first | (simp [entryFrame, mkF, argsToLocals, Value.category]; done) | rfl | (rfl)
set_option maxRecDepth 65536 in
set_option maxHeartbeats 40000000 in
theorem rmTok (l : Launch) (Z : State) (a0 : Array Value) (hw : ∀ d ∈ tables_1, d.before a0 Z = true) (ws : List Jvm.Cond) (p1 : Int32) (p2 : Int32) (w0 : Addr) (w1 : Addr) (w2 : Addr) (w3 : Addr) (w4 : Addr) (w5 : Addr) (zc : Int32) (h0 : Heap) (n0 : Nat) (O : Old Z n0 h0) (S_0 : Sta Z Z.heap "com/example/nasute/nasute/sql/Token$Type" "WORD" "Lcom/example/nasute/nasute/sql/Token$Type;" (.ref w0)) (S_1 : Sta Z Z.heap "com/example/nasute/nasute/sql/Token$Type" "QUOTED_NAME" "Lcom/example/nasute/nasute/sql/Token$Type;" (.ref w1)) (S_2 : Sta Z Z.heap "com/example/nasute/nasute/sql/Token$Type" "STRING" "Lcom/example/nasute/nasute/sql/Token$Type;" (.ref w2)) (S_3 : Sta Z Z.heap "com/example/nasute/nasute/sql/Token$Type" "NUMBER" "Lcom/example/nasute/nasute/sql/Token$Type;" (.ref w3)) (S_4 : Sta Z Z.heap "com/example/nasute/nasute/sql/Token$Type" "VARIABLE" "Lcom/example/nasute/nasute/sql/Token$Type;" (.ref w4)) (S_5 : Sta Z Z.heap "com/example/nasute/nasute/sql/Token$Type" "SYMBOL" "Lcom/example/nasute/nasute/sql/Token$Type;" (.ref w5)) (S_C : Sta Z Z.heap "java/lang/String" "COMPACT_STRINGS" "Z" (.int zc)) (hcs : ¬ zc = (0 : Int32)) :
    MetFree l (⟨"com/example/nasute/nasute/sql/TokenCursorIsTextEndPinLaw", "token", "(II)Lcom/example/nasute/nasute/sql/Token;"⟩ : MethodName) (head1 (Jvm.Cond.code (⟨"com/example/nasute/nasute/sql/TokenCursorIsTextEndPinLaw", "token", "(II)Lcom/example/nasute/nasute/sql/Token;"⟩ : MethodName) method_3_code 4 (some (.object "com/example/nasute/nasute/sql/Token")) :: ws) ({ frames := 3, cells := 3, slots := 9, locals := 41 } : Room)) (fun as_ U => as_ = #[(.int p1), (.int p2)] ∧ Z.Warmed39 U.vm ∧ U.heap = h0) (fun _ _ _ _ _ => True) (fun _ U oo_ U' => ∃ vv_ LL_, oo_ = .returned vv_ ∧ QTok Z p1 p2 w0 w1 w2 w3 w4 w5 zc h0 n0 vv_ U'.heap LL_ ∧ ReturnedEndW U oo_ U' LL_ ({ frames := 3, cells := 3, slots := 9, locals := 41 } : Room).cells ({ frames := 3, cells := 3, slots := 9, locals := 41 } : Room).slots) := by
  refine MetFree.of_bodySF (plainFor_of_name pn_4) hisR ?_
  intro p e s m args below meth c s₁ Bd hml0 hP hK
  obtain ⟨rfl, hZ, hh⟩ := hP
  have hx := Bd.exec
  have hby := Bd.bytes
  have hml : c.maxLocals = 4 := hml0
  have hown : s.vm.findClass "com/example/nasute/nasute/sql/TokenCursorIsTextEndPinLaw" = some m.cls := findClass_of_methodNamed Bd.named
  have hnm := (name_of_methodNamed Bd.named Bd.method).1
  have X0 : Stand p l e ({ frames := 3, cells := 3, slots := 9, locals := 41 } : Room) (s.setVm s.vm) m #[(.int p1), (.int p2)] below meth c s₁ [] 0 0 := Stand.of_body Bd
  have e0 : s₁.heap = h0 := by rw [← hh, Bd.state]; rfl
  have N := Fr.nil n0
  have hown : (s.setVm s.vm).vm.findClass "com/example/nasute/nasute/sql/TokenCursorIsTextEndPinLaw" = some m.cls := hown
  have hZ : Z.Warmed39 (s.setVm s.vm).vm := hZ
  have hS : s.Since s.vm h0.size := (State.WarmedH.refl s).since _
  have hk : h0.size ≤ h0.size := Nat.le_refl _
  have K : Keep h0 h0 [] := Keep.refl h0 _
  refine own_go (B := s₁.setTop (mkF m 0 #[.val (.int p1), .val (.int p2), .unset, .unset] [])) (fun t k => castTop (ef_Tok m p1 p2) k) ?_
  refine own_abs (fun P hfin => ?_)
  refine own_go (B := s₁.setTop (mkF m 5 #[.val (.int p1), .val (.int p2), .unset, .unset] [(.int (p1 &&& (256 : Int32)))])) (fun t k => ?_) ?_
  · show Steps p.tables e below (s₁.setTop (mkF m 0 #[.val (.int p1), .val (.int p2), .unset, .unset] [])) _
    refine XS.iloadN X0.here hx rfl (hb hby d_method_3_0) rfl ?_
    show Steps p.tables e below (s₁.setTop (mkF m 1 #[.val (.int p1), .val (.int p2), .unset, .unset] [(.int p1)])) _
    refine XS.sipush X0.here hx rfl (hb hby d_method_3_1) ?_
    show Steps p.tables e below (s₁.setTop (mkF m 4 #[.val (.int p1), .val (.int p2), .unset, .unset] [(.int (256 : Int32)), (.int p1)])) _
    refine XS.iand X0.here hx rfl (hb hby d_method_3_4) rfl ?_
    show Steps p.tables e below (s₁.setTop (mkF m 5 #[.val (.int p1), .val (.int p2), .unset, .unset] [(.int (p1 &&& (256 : Int32)))])) _
    exact k
  by_cases c0 : (p1 &&& (256 : Int32)) = (0 : Int32)
  · refine own_go (B := s₁.setTop (mkF m 19 #[.val (.int p1), .val (.int p2), .unset, .unset] [(.int ((p1 &&& (255 : Int32)).toUInt32.toUInt16.toUInt32.toInt32))])) (fun t k => ?_) ?_
    · show Steps p.tables e below (s₁.setTop (mkF m 5 #[.val (.int p1), .val (.int p2), .unset, .unset] [(.int (p1 &&& (256 : Int32)))])) _
      refine XS.ifYes X0.here hx rfl (pc0 := 5) (pc' := 13) rfl (hb hby d_method_3_5) rfl ((if0 _ _).trans (teq c0).1) (by decide) (by decide) ?_
      show Steps p.tables e below (s₁.setTop (mkF m 13 #[.val (.int p1), .val (.int p2), .unset, .unset] [])) _
      refine XS.iloadN X0.here hx rfl (hb hby d_method_3_13) rfl ?_
      show Steps p.tables e below (s₁.setTop (mkF m 14 #[.val (.int p1), .val (.int p2), .unset, .unset] [(.int p1)])) _
      refine XS.sipush X0.here hx rfl (hb hby d_method_3_14) ?_
      show Steps p.tables e below (s₁.setTop (mkF m 17 #[.val (.int p1), .val (.int p2), .unset, .unset] [(.int (255 : Int32)), (.int p1)])) _
      refine XS.iand X0.here hx rfl (hb hby d_method_3_17) rfl ?_
      show Steps p.tables e below (s₁.setTop (mkF m 18 #[.val (.int p1), .val (.int p2), .unset, .unset] [(.int (p1 &&& (255 : Int32)))])) _
      refine XS.i2c X0.here hx rfl (hb hby d_method_3_18) rfl ?_
      show Steps p.tables e below (s₁.setTop (mkF m 19 #[.val (.int p1), .val (.int p2), .unset, .unset] [(.int ((p1 &&& (255 : Int32)).toUInt32.toUInt16.toUInt32.toInt32))])) _
      exact k
    rw [i2c_mask]
    obtain ⟨ca, hca⟩ : ∃ z : Int32, z = (p1 &&& (255 : Int32)) := ⟨_, rfl⟩
    rw [← hca]
    have bca : ¬ ca < 0 ∧ ¬ (255 : Int32) < ca := by rw [hca]; exact own_b255 _
    have cca : nar .char ca = ca := by rw [hca]; exact i2c_mask _
    -- pc 19: java/lang/String.valueOf
    obtain ⟨_, _, ⟨T1, L1, k1, n1⟩, -, X1, ⟨Lc1, hQ1, l1, y1, z1⟩, st1⟩ := Jvm.LawKit.callS X0 hx (y := (⟨"java/lang/String", "valueOf", "(C)Ljava/lang/String;"⟩ : MethodName)) hown (mvT hZ (hw _ (own_g (i := 4) rfl))) (mvT hZ (hw _ (own_g (i := 5) rfl))) (mvT hZ (hw _ (own_g (i := 6) rfl))) (mvT hZ (hw _ (own_g (i := 7) rfl))) (by decide) (backOf (W := 0) (rmVO l Z a0 hw [] ca zc h0 n0 O S_C bca.2 hcs) hZ (hw _ (own_g (i := 7) rfl)) (hw _ (own_g (i := 6) rfl)) (by decide) (by decide)) (g := (mkF m 19 #[.val (.int p1), .val (.int p2), .unset, .unset] [(.int ca)])) rfl (by rw [hml]; rfl) (argsL := [(.int ca)]) (rest := []) (lenOf pd_4 rfl) rfl (by show 2 * 0 + _ ≤ _; exact Nat.le_of_eq rfl) (hb hby d_method_3_19) (fun _ hWm => ⟨rfl, e0, (by decide : 0 + 2 ≤ _), (by decide : 0 + 5 ≤ _)⟩)
    dsimp only [Pt.U, Pt.locs, Pt.cells, Pt.slots] at X1 l1 y1 z1 st1 hQ1
    subst l1 y1 z1
    obtain ⟨r1, t1, k1, rfl, Nq1, Kq1, fq1_r, fq1_t, Gq1_0, Gq1_1, Gq1_2, Gq1_3⟩ := hQ1
    replace N := Fr.app N Nq1
    have g_r1 : n0 ≤ r1 := Nat.le_trans (own_oldsz O) fq1_r
    have s_r1 : h0.size ≤ r1 := Nat.le_trans K.1 fq1_r
    have g_t1 : n0 ≤ t1 := Nat.le_trans (own_oldsz O) fq1_t
    have s_t1 : h0.size ≤ t1 := Nat.le_trans K.1 fq1_t
    replace O := O.keep Kq1 all0
    replace hk := Nat.le_trans hk Kq1.1
    replace K := K.trans Kq1 all0
    refine own_go (B := T1.setTop (mkF m 22 #[.val (.int p1), .val (.int p2), .unset, .unset] [(.ref r1)])) st1 ?_
    clear Gq1_0 Gq1_1 Gq1_2 Gq1_3
    refine own_go (B := T1.setTop (mkF m 28 #[.val (.int p1), .val (.int p2), .val (.ref r1), .val (.int ((p1.toUInt32 >>> ((9 : Int32) &&& 31).toUInt32).toInt32))] [])) (fun t k => ?_) ?_
    · show Steps p.tables e below (T1.setTop (mkF m 22 #[.val (.int p1), .val (.int p2), .unset, .unset] [(.ref r1)])) _
      refine XS.astoreN X1.here hx rfl (hb hby d_method_3_22) rfl rfl (l' := #[.val (.int p1), .val (.int p2), .val (.ref r1), .unset]) rfl ?_
      show Steps p.tables e below (T1.setTop (mkF m 23 #[.val (.int p1), .val (.int p2), .val (.ref r1), .unset] [])) _
      refine XS.iloadN X1.here hx rfl (hb hby d_method_3_23) rfl ?_
      show Steps p.tables e below (T1.setTop (mkF m 24 #[.val (.int p1), .val (.int p2), .val (.ref r1), .unset] [(.int p1)])) _
      refine XS.bipush X1.here hx rfl (hb hby d_method_3_24) ?_
      show Steps p.tables e below (T1.setTop (mkF m 26 #[.val (.int p1), .val (.int p2), .val (.ref r1), .unset] [(.int (9 : Int32)), (.int p1)])) _
      refine XS.iushr X1.here hx rfl (hb hby d_method_3_26) rfl ?_
      show Steps p.tables e below (T1.setTop (mkF m 27 #[.val (.int p1), .val (.int p2), .val (.ref r1), .unset] [(.int ((p1.toUInt32 >>> ((9 : Int32) &&& 31).toUInt32).toInt32))])) _
      refine XS.istoreN X1.here hx rfl (hb hby d_method_3_27) rfl (l' := #[.val (.int p1), .val (.int p2), .val (.ref r1), .val (.int ((p1.toUInt32 >>> ((9 : Int32) &&& 31).toUInt32).toInt32))]) rfl ?_
      show Steps p.tables e below (T1.setTop (mkF m 28 #[.val (.int p1), .val (.int p2), .val (.ref r1), .val (.int ((p1.toUInt32 >>> ((9 : Int32) &&& 31).toUInt32).toInt32))] [])) _
      exact k
    obtain ⟨T2, h2, X2, e2, E2, A2, D2, -, st2⟩ := newO X1 hx hZ hown (hw _ (own_g (i := 30) rfl)) (hw _ (own_g (i := 31) rfl)) (hw _ (own_g (i := 32) rfl)) rfl (g := (mkF m 28 #[.val (.int p1), .val (.int p2), .val (.ref r1), .val (.int ((p1.toUInt32 >>> ((9 : Int32) &&& 31).toUInt32).toInt32))] [])) rfl (hb hby d_method_3_28) (by decide) (by decide)
    obtain ⟨b2, g2⟩ : ∃ z, z = T1.heap.size := ⟨_, rfl⟩
    rw [← g2] at A2 D2 st2
    have g_b2 : n0 ≤ b2 := Nat.le_trans (own_oldsz O) (Nat.le_of_eq g2.symm)
    have s_b2 : h0.size ≤ b2 := Nat.le_trans K.1 (Nat.le_of_eq g2.symm)
    replace O := O.ext E2
    replace hk := Nat.le_trans hk E2.1
    replace K := K.ext E2
    have F2_type : Fld Z h2 b2 "com/example/nasute/nasute/sql/Token" "type" "Lcom/example/nasute/nasute/sql/Token$Type;" .null := D2 (Or.inr (hw _ (own_g (i := 49) rfl))) (ty := (.object "com/example/nasute/nasute/sql/Token$Type")) (by decide)
    have F2_value : Fld Z h2 b2 "com/example/nasute/nasute/sql/Token" "value" "Ljava/lang/String;" .null := D2 (Or.inr (hw _ (own_g (i := 51) rfl))) (ty := (.object "java/lang/String")) (by decide)
    have F2_offset : Fld Z h2 b2 "com/example/nasute/nasute/sql/Token" "offset" "I" (.int (0 : Int32)) := D2 (Or.inr (hw _ (own_g (i := 53) rfl))) (ty := .int) (by decide)
    have F2_end : Fld Z h2 b2 "com/example/nasute/nasute/sql/Token" "end" "I" (.int (0 : Int32)) := D2 (Or.inr (hw _ (own_g (i := 55) rfl))) (ty := .int) (by decide)
    refine own_go (B := T2.setTop (mkF m 31 #[.val (.int p1), .val (.int p2), .val (.ref r1), .val (.int ((p1.toUInt32 >>> ((9 : Int32) &&& 31).toUInt32).toInt32))] [(.ref b2)])) st2 ?_
    refine own_go (B := T2.setTop (mkF m 33 #[.val (.int p1), .val (.int p2), .val (.ref r1), .val (.int ((p1.toUInt32 >>> ((9 : Int32) &&& 31).toUInt32).toInt32))] [(.int p2), (.ref b2), (.ref b2)])) (fun t k => ?_) ?_
    · show Steps p.tables e below (T2.setTop (mkF m 31 #[.val (.int p1), .val (.int p2), .val (.ref r1), .val (.int ((p1.toUInt32 >>> ((9 : Int32) &&& 31).toUInt32).toInt32))] [(.ref b2)])) _
      refine XS.dup X2.here hx rfl (hb hby d_method_3_31) rfl rfl ?_
      show Steps p.tables e below (T2.setTop (mkF m 32 #[.val (.int p1), .val (.int p2), .val (.ref r1), .val (.int ((p1.toUInt32 >>> ((9 : Int32) &&& 31).toUInt32).toInt32))] [(.ref b2), (.ref b2)])) _
      refine XS.iloadN X2.here hx rfl (hb hby d_method_3_32) rfl ?_
      show Steps p.tables e below (T2.setTop (mkF m 33 #[.val (.int p1), .val (.int p2), .val (.ref r1), .val (.int ((p1.toUInt32 >>> ((9 : Int32) &&& 31).toUInt32).toInt32))] [(.int p2), (.ref b2), (.ref b2)])) _
      exact k
    -- pc 33: com/example/nasute/nasute/sql/TokenCursorIsTextEndPinLaw.type
    obtain ⟨_, _, ⟨T3, L3, k3, n3⟩, -, X3, ⟨Lc3, hQ3, l3, y3, z3⟩, st3⟩ := Jvm.LawKit.callS X2 hx (y := (⟨"com/example/nasute/nasute/sql/TokenCursorIsTextEndPinLaw", "type", "(I)Lcom/example/nasute/nasute/sql/Token$Type;"⟩ : MethodName)) hown (mvT hZ (hw _ (own_g (i := 33) rfl))) (mvT hZ (hw _ (own_g (i := 34) rfl))) (mvT hZ (hw _ (own_g (i := 2) rfl))) (mvT hZ (hw _ (own_g (i := 35) rfl))) (by decide) (backOf (W := 2) (rmTyp l Z a0 hw [] p2 w0 w1 w2 w3 w4 w5 h2 n0 O S_0 S_1 S_2 S_3 S_4 S_5) hZ (hw _ (own_g (i := 35) rfl)) (hw _ (own_g (i := 2) rfl)) (by decide) (by decide)) (g := (mkF m 33 #[.val (.int p1), .val (.int p2), .val (.ref r1), .val (.int ((p1.toUInt32 >>> ((9 : Int32) &&& 31).toUInt32).toInt32))] [(.int p2), (.ref b2), (.ref b2)])) rfl (by rw [hml]; rfl) (argsL := [(.int p2)]) (rest := [(.ref b2), (.ref b2)]) (lenOf pd_5 rfl) rfl (by show 2 * 0 + _ ≤ _; exact Nat.le_of_eq rfl) (hb hby d_method_3_33) (fun _ hWm => ⟨rfl, e2, (by decide : 3 + 0 ≤ _), (by decide : 9 + 0 ≤ _)⟩)
    dsimp only [Pt.U, Pt.locs, Pt.cells, Pt.slots] at X3 l3 y3 z3 st3 hQ3
    subst l3 y3 z3
    obtain ⟨r3, rfl, Nq3, Kq3⟩ := hQ3
    replace N := Fr.app N Nq3
    refine own_go (B := T3.setTop (mkF m 36 #[.val (.int p1), .val (.int p2), .val (.ref r1), .val (.int ((p1.toUInt32 >>> ((9 : Int32) &&& 31).toUInt32).toInt32))] [(.ref r3), (.ref b2), (.ref b2)])) st3 ?_
    refine own_go (B := T3.setTop (mkF m 41 #[.val (.int p1), .val (.int p2), .val (.ref r1), .val (.int ((p1.toUInt32 >>> ((9 : Int32) &&& 31).toUInt32).toInt32))] [(.int (((p1.toUInt32 >>> ((9 : Int32) &&& 31).toUInt32).toInt32) + (1 : Int32))), (.int ((p1.toUInt32 >>> ((9 : Int32) &&& 31).toUInt32).toInt32)), (.ref r1), (.ref r3), (.ref b2), (.ref b2)])) (fun t k => ?_) ?_
    · show Steps p.tables e below (T3.setTop (mkF m 36 #[.val (.int p1), .val (.int p2), .val (.ref r1), .val (.int ((p1.toUInt32 >>> ((9 : Int32) &&& 31).toUInt32).toInt32))] [(.ref r3), (.ref b2), (.ref b2)])) _
      refine XS.aloadN X3.here hx rfl (hb hby d_method_3_36) rfl rfl ?_
      show Steps p.tables e below (T3.setTop (mkF m 37 #[.val (.int p1), .val (.int p2), .val (.ref r1), .val (.int ((p1.toUInt32 >>> ((9 : Int32) &&& 31).toUInt32).toInt32))] [(.ref r1), (.ref r3), (.ref b2), (.ref b2)])) _
      refine XS.iloadN X3.here hx rfl (hb hby d_method_3_37) rfl ?_
      show Steps p.tables e below (T3.setTop (mkF m 38 #[.val (.int p1), .val (.int p2), .val (.ref r1), .val (.int ((p1.toUInt32 >>> ((9 : Int32) &&& 31).toUInt32).toInt32))] [(.int ((p1.toUInt32 >>> ((9 : Int32) &&& 31).toUInt32).toInt32)), (.ref r1), (.ref r3), (.ref b2), (.ref b2)])) _
      refine XS.iloadN X3.here hx rfl (hb hby d_method_3_38) rfl ?_
      show Steps p.tables e below (T3.setTop (mkF m 39 #[.val (.int p1), .val (.int p2), .val (.ref r1), .val (.int ((p1.toUInt32 >>> ((9 : Int32) &&& 31).toUInt32).toInt32))] [(.int ((p1.toUInt32 >>> ((9 : Int32) &&& 31).toUInt32).toInt32)), (.int ((p1.toUInt32 >>> ((9 : Int32) &&& 31).toUInt32).toInt32)), (.ref r1), (.ref r3), (.ref b2), (.ref b2)])) _
      refine XS.iconst X3.here hx rfl (hb hby d_method_3_39) ?_
      show Steps p.tables e below (T3.setTop (mkF m 40 #[.val (.int p1), .val (.int p2), .val (.ref r1), .val (.int ((p1.toUInt32 >>> ((9 : Int32) &&& 31).toUInt32).toInt32))] [(.int (1 : Int32)), (.int ((p1.toUInt32 >>> ((9 : Int32) &&& 31).toUInt32).toInt32)), (.int ((p1.toUInt32 >>> ((9 : Int32) &&& 31).toUInt32).toInt32)), (.ref r1), (.ref r3), (.ref b2), (.ref b2)])) _
      refine XS.iadd X3.here hx rfl (hb hby d_method_3_40) rfl ?_
      show Steps p.tables e below (T3.setTop (mkF m 41 #[.val (.int p1), .val (.int p2), .val (.ref r1), .val (.int ((p1.toUInt32 >>> ((9 : Int32) &&& 31).toUInt32).toInt32))] [(.int (((p1.toUInt32 >>> ((9 : Int32) &&& 31).toUInt32).toInt32) + (1 : Int32))), (.int ((p1.toUInt32 >>> ((9 : Int32) &&& 31).toUInt32).toInt32)), (.ref r1), (.ref r3), (.ref b2), (.ref b2)])) _
      exact k
    -- pc 41: com/example/nasute/nasute/sql/Token.<init>
    obtain ⟨_, _, ⟨T4, L4, k4, n4⟩, -, X4, ⟨Lc4, hQ4, l4, y4, z4⟩, st4⟩ := X3.specialBack hx (y := (⟨"com/example/nasute/nasute/sql/Token", "<init>", "(Lcom/example/nasute/nasute/sql/Token$Type;Ljava/lang/String;II)V"⟩ : MethodName)) rfl hown (mvT hZ (hw _ (own_g (i := 39) rfl))) (mvT hZ (hw _ (own_g (i := 40) rfl))) (mvT hZ (hw _ (own_g (i := 41) rfl))) (by decide) (backOf (W := 1) (rmTkI l Z a0 hw [] b2 r3 r1 ((p1.toUInt32 >>> ((9 : Int32) &&& 31).toUInt32).toInt32) (((p1.toUInt32 >>> ((9 : Int32) &&& 31).toUInt32).toInt32) + (1 : Int32)) h2 n0 O A2 F2_type F2_value F2_offset F2_end g_b2) hZ (hw _ (own_g (i := 41) rfl)) (hw _ (own_g (i := 32) rfl)) (by decide) (by decide)) (g := (mkF m 41 #[.val (.int p1), .val (.int p2), .val (.ref r1), .val (.int ((p1.toUInt32 >>> ((9 : Int32) &&& 31).toUInt32).toInt32))] [(.int (((p1.toUInt32 >>> ((9 : Int32) &&& 31).toUInt32).toInt32) + (1 : Int32))), (.int ((p1.toUInt32 >>> ((9 : Int32) &&& 31).toUInt32).toInt32)), (.ref r1), (.ref r3), (.ref b2), (.ref b2)])) rfl (by rw [hml]; rfl) (Steps.refl _) (a := b2) (argsL := [(.ref r3), (.ref r1), (.int ((p1.toUInt32 >>> ((9 : Int32) &&& 31).toUInt32).toInt32)), (.int (((p1.toUInt32 >>> ((9 : Int32) &&& 31).toUInt32).toInt32) + (1 : Int32)))]) (rest := [(.ref b2)]) (lenOf pd_6 rfl) rfl (by show 2 * 0 + _ ≤ _; exact Nat.le_of_eq rfl) (hb hby d_method_3_41) (fun _ hWm => ⟨rfl, Kq3, (by decide : 3 + 0 ≤ _), (by decide : 9 + 0 ≤ _)⟩)
    dsimp only [Pt.U, Pt.locs, Pt.cells, Pt.slots] at X4 l4 y4 z4 st4 hQ4
    subst l4 y4 z4
    obtain ⟨rfl, Nq4, Kq4⟩ := hQ4
    replace N := Fr.app N Nq4
    replace A2 := A2.keep Kq4
    clear F2_type
    clear F2_value
    clear F2_offset
    clear F2_end
    replace O := O.keep Kq4 (allS g_b2 all0)
    replace hk := Nat.le_trans hk Kq4.1
    replace K := K.trans Kq4 (allS (Or.inr s_b2) all0)
    refine own_go (B := T4.setTop (mkF m 44 #[.val (.int p1), .val (.int p2), .val (.ref r1), .val (.int ((p1.toUInt32 >>> ((9 : Int32) &&& 31).toUInt32).toInt32))] [(.ref b2)])) (fun t k => st4.trans k) ?_
    obtain ⟨fs, hr, hrun, hended, hEnd⟩ := X4.leaveW hS hk (v := some (.ref b2)) (fun h => by rw [Bd.returns] at h; cases h)
    refine ⟨_, _, own_retA X4 hx rfl Bd.returns rfl (hb hby d_method_3_44) hr, hfin _ _ ⟨hrun, hended, _, _, rfl, ?_, hEnd.1, hEnd.2.1, hEnd.2.2.1, hEnd.2.2.2.mono (by decide) (by decide)⟩⟩
    show QTok Z p1 p2 w0 w1 w2 w3 w4 w5 zc h0 n0 _ T4.heap _
    exact ⟨b2, rfl, N, K, s_b2, A2⟩
  · refine own_go (B := s₁.setTop (mkF m 8 #[.val (.int p1), .val (.int p2), .unset, .unset] [])) (fun t k => ?_) ?_
    · show Steps p.tables e below (s₁.setTop (mkF m 5 #[.val (.int p1), .val (.int p2), .unset, .unset] [(.int (p1 &&& (256 : Int32)))])) _
      refine XS.ifNo X0.here hx rfl (hb hby d_method_3_5) rfl ((if0 _ _).trans (feq c0).1) ?_
      show Steps p.tables e below (s₁.setTop (mkF m 8 #[.val (.int p1), .val (.int p2), .unset, .unset] [])) _
      exact k
    obtain ⟨b6, T6, h6, k6, X6, e6, E6, hS, hk', hZ, hown, st6⟩ := ldcS X0 hx hZ hown (hw _ (own_g (i := 204) rfl)) (fun d hd => hw d ((by decide +kernel : ∀ d ∈ Bundle.stringAtoms, d ∈ tables_1) d hd)) e0 hS hk (g := (mkF m 8 #[.val (.int p1), .val (.int p2), .unset, .unset] [])) rfl (hb hby d_method_3_8) (n := 0) (by decide) (by decide) (by decide) (by decide)
    replace O := O.ext E6
    replace hk := Nat.le_trans hk E6.1
    replace K := K.ext E6
    replace hk := hk'
    refine own_go (B := T6.setTop (mkF m 10 #[.val (.int p1), .val (.int p2), .unset, .unset] [(.ref b6)])) st6 ?_
    refine own_go (B := T6.setTop (mkF m 28 #[.val (.int p1), .val (.int p2), .val (.ref b6), .val (.int ((p1.toUInt32 >>> ((9 : Int32) &&& 31).toUInt32).toInt32))] [])) (fun t k => ?_) ?_
    · show Steps p.tables e below (T6.setTop (mkF m 10 #[.val (.int p1), .val (.int p2), .unset, .unset] [(.ref b6)])) _
      refine XS.goto X6.here hx rfl (pc0 := 10) (pc' := 22) rfl (hb hby d_method_3_10) (by decide) (by decide) ?_
      show Steps p.tables e below (T6.setTop (mkF m 22 #[.val (.int p1), .val (.int p2), .unset, .unset] [(.ref b6)])) _
      refine XS.astoreN X6.here hx rfl (hb hby d_method_3_22) rfl rfl (l' := #[.val (.int p1), .val (.int p2), .val (.ref b6), .unset]) rfl ?_
      show Steps p.tables e below (T6.setTop (mkF m 23 #[.val (.int p1), .val (.int p2), .val (.ref b6), .unset] [])) _
      refine XS.iloadN X6.here hx rfl (hb hby d_method_3_23) rfl ?_
      show Steps p.tables e below (T6.setTop (mkF m 24 #[.val (.int p1), .val (.int p2), .val (.ref b6), .unset] [(.int p1)])) _
      refine XS.bipush X6.here hx rfl (hb hby d_method_3_24) ?_
      show Steps p.tables e below (T6.setTop (mkF m 26 #[.val (.int p1), .val (.int p2), .val (.ref b6), .unset] [(.int (9 : Int32)), (.int p1)])) _
      refine XS.iushr X6.here hx rfl (hb hby d_method_3_26) rfl ?_
      show Steps p.tables e below (T6.setTop (mkF m 27 #[.val (.int p1), .val (.int p2), .val (.ref b6), .unset] [(.int ((p1.toUInt32 >>> ((9 : Int32) &&& 31).toUInt32).toInt32))])) _
      refine XS.istoreN X6.here hx rfl (hb hby d_method_3_27) rfl (l' := #[.val (.int p1), .val (.int p2), .val (.ref b6), .val (.int ((p1.toUInt32 >>> ((9 : Int32) &&& 31).toUInt32).toInt32))]) rfl ?_
      show Steps p.tables e below (T6.setTop (mkF m 28 #[.val (.int p1), .val (.int p2), .val (.ref b6), .val (.int ((p1.toUInt32 >>> ((9 : Int32) &&& 31).toUInt32).toInt32))] [])) _
      exact k
    obtain ⟨T7, h7, X7, e7, E7, A7, D7, -, st7⟩ := newO X6 hx hZ hown (hw _ (own_g (i := 30) rfl)) (hw _ (own_g (i := 31) rfl)) (hw _ (own_g (i := 32) rfl)) e6 (g := (mkF m 28 #[.val (.int p1), .val (.int p2), .val (.ref b6), .val (.int ((p1.toUInt32 >>> ((9 : Int32) &&& 31).toUInt32).toInt32))] [])) rfl (hb hby d_method_3_28) (by decide) (by decide)
    obtain ⟨b7, g7⟩ : ∃ z, z = h6.size := ⟨_, rfl⟩
    rw [← g7] at A7 D7 st7
    have g_b7 : n0 ≤ b7 := Nat.le_trans (own_oldsz O) (Nat.le_of_eq g7.symm)
    have s_b7 : h0.size ≤ b7 := Nat.le_trans K.1 (Nat.le_of_eq g7.symm)
    replace O := O.ext E7
    replace hk := Nat.le_trans hk E7.1
    replace K := K.ext E7
    have F7_type : Fld Z h7 b7 "com/example/nasute/nasute/sql/Token" "type" "Lcom/example/nasute/nasute/sql/Token$Type;" .null := D7 (Or.inr (hw _ (own_g (i := 49) rfl))) (ty := (.object "com/example/nasute/nasute/sql/Token$Type")) (by decide)
    have F7_value : Fld Z h7 b7 "com/example/nasute/nasute/sql/Token" "value" "Ljava/lang/String;" .null := D7 (Or.inr (hw _ (own_g (i := 51) rfl))) (ty := (.object "java/lang/String")) (by decide)
    have F7_offset : Fld Z h7 b7 "com/example/nasute/nasute/sql/Token" "offset" "I" (.int (0 : Int32)) := D7 (Or.inr (hw _ (own_g (i := 53) rfl))) (ty := .int) (by decide)
    have F7_end : Fld Z h7 b7 "com/example/nasute/nasute/sql/Token" "end" "I" (.int (0 : Int32)) := D7 (Or.inr (hw _ (own_g (i := 55) rfl))) (ty := .int) (by decide)
    refine own_go (B := T7.setTop (mkF m 31 #[.val (.int p1), .val (.int p2), .val (.ref b6), .val (.int ((p1.toUInt32 >>> ((9 : Int32) &&& 31).toUInt32).toInt32))] [(.ref b7)])) st7 ?_
    refine own_go (B := T7.setTop (mkF m 33 #[.val (.int p1), .val (.int p2), .val (.ref b6), .val (.int ((p1.toUInt32 >>> ((9 : Int32) &&& 31).toUInt32).toInt32))] [(.int p2), (.ref b7), (.ref b7)])) (fun t k => ?_) ?_
    · show Steps p.tables e below (T7.setTop (mkF m 31 #[.val (.int p1), .val (.int p2), .val (.ref b6), .val (.int ((p1.toUInt32 >>> ((9 : Int32) &&& 31).toUInt32).toInt32))] [(.ref b7)])) _
      refine XS.dup X7.here hx rfl (hb hby d_method_3_31) rfl rfl ?_
      show Steps p.tables e below (T7.setTop (mkF m 32 #[.val (.int p1), .val (.int p2), .val (.ref b6), .val (.int ((p1.toUInt32 >>> ((9 : Int32) &&& 31).toUInt32).toInt32))] [(.ref b7), (.ref b7)])) _
      refine XS.iloadN X7.here hx rfl (hb hby d_method_3_32) rfl ?_
      show Steps p.tables e below (T7.setTop (mkF m 33 #[.val (.int p1), .val (.int p2), .val (.ref b6), .val (.int ((p1.toUInt32 >>> ((9 : Int32) &&& 31).toUInt32).toInt32))] [(.int p2), (.ref b7), (.ref b7)])) _
      exact k
    -- pc 33: com/example/nasute/nasute/sql/TokenCursorIsTextEndPinLaw.type
    obtain ⟨_, _, ⟨T8, L8, k8, n8⟩, -, X8, ⟨Lc8, hQ8, l8, y8, z8⟩, st8⟩ := Jvm.LawKit.callS X7 hx (y := (⟨"com/example/nasute/nasute/sql/TokenCursorIsTextEndPinLaw", "type", "(I)Lcom/example/nasute/nasute/sql/Token$Type;"⟩ : MethodName)) hown (mvT hZ (hw _ (own_g (i := 33) rfl))) (mvT hZ (hw _ (own_g (i := 34) rfl))) (mvT hZ (hw _ (own_g (i := 2) rfl))) (mvT hZ (hw _ (own_g (i := 35) rfl))) (by decide) (backOf (W := 2) (rmTyp l Z a0 hw [] p2 w0 w1 w2 w3 w4 w5 h7 n0 O S_0 S_1 S_2 S_3 S_4 S_5) hZ (hw _ (own_g (i := 35) rfl)) (hw _ (own_g (i := 2) rfl)) (by decide) (by decide)) (g := (mkF m 33 #[.val (.int p1), .val (.int p2), .val (.ref b6), .val (.int ((p1.toUInt32 >>> ((9 : Int32) &&& 31).toUInt32).toInt32))] [(.int p2), (.ref b7), (.ref b7)])) rfl (by rw [hml]; rfl) (argsL := [(.int p2)]) (rest := [(.ref b7), (.ref b7)]) (lenOf pd_5 rfl) rfl (by show 2 * 0 + _ ≤ _; exact Nat.le_of_eq rfl) (hb hby d_method_3_33) (fun _ hWm => ⟨rfl, e7, (by decide : 3 + 0 ≤ _), (by decide : 8 + 0 ≤ _)⟩)
    dsimp only [Pt.U, Pt.locs, Pt.cells, Pt.slots] at X8 l8 y8 z8 st8 hQ8
    subst l8 y8 z8
    obtain ⟨r8, rfl, Nq8, Kq8⟩ := hQ8
    replace N := Fr.app N Nq8
    refine own_go (B := T8.setTop (mkF m 36 #[.val (.int p1), .val (.int p2), .val (.ref b6), .val (.int ((p1.toUInt32 >>> ((9 : Int32) &&& 31).toUInt32).toInt32))] [(.ref r8), (.ref b7), (.ref b7)])) st8 ?_
    refine own_go (B := T8.setTop (mkF m 41 #[.val (.int p1), .val (.int p2), .val (.ref b6), .val (.int ((p1.toUInt32 >>> ((9 : Int32) &&& 31).toUInt32).toInt32))] [(.int (((p1.toUInt32 >>> ((9 : Int32) &&& 31).toUInt32).toInt32) + (1 : Int32))), (.int ((p1.toUInt32 >>> ((9 : Int32) &&& 31).toUInt32).toInt32)), (.ref b6), (.ref r8), (.ref b7), (.ref b7)])) (fun t k => ?_) ?_
    · show Steps p.tables e below (T8.setTop (mkF m 36 #[.val (.int p1), .val (.int p2), .val (.ref b6), .val (.int ((p1.toUInt32 >>> ((9 : Int32) &&& 31).toUInt32).toInt32))] [(.ref r8), (.ref b7), (.ref b7)])) _
      refine XS.aloadN X8.here hx rfl (hb hby d_method_3_36) rfl rfl ?_
      show Steps p.tables e below (T8.setTop (mkF m 37 #[.val (.int p1), .val (.int p2), .val (.ref b6), .val (.int ((p1.toUInt32 >>> ((9 : Int32) &&& 31).toUInt32).toInt32))] [(.ref b6), (.ref r8), (.ref b7), (.ref b7)])) _
      refine XS.iloadN X8.here hx rfl (hb hby d_method_3_37) rfl ?_
      show Steps p.tables e below (T8.setTop (mkF m 38 #[.val (.int p1), .val (.int p2), .val (.ref b6), .val (.int ((p1.toUInt32 >>> ((9 : Int32) &&& 31).toUInt32).toInt32))] [(.int ((p1.toUInt32 >>> ((9 : Int32) &&& 31).toUInt32).toInt32)), (.ref b6), (.ref r8), (.ref b7), (.ref b7)])) _
      refine XS.iloadN X8.here hx rfl (hb hby d_method_3_38) rfl ?_
      show Steps p.tables e below (T8.setTop (mkF m 39 #[.val (.int p1), .val (.int p2), .val (.ref b6), .val (.int ((p1.toUInt32 >>> ((9 : Int32) &&& 31).toUInt32).toInt32))] [(.int ((p1.toUInt32 >>> ((9 : Int32) &&& 31).toUInt32).toInt32)), (.int ((p1.toUInt32 >>> ((9 : Int32) &&& 31).toUInt32).toInt32)), (.ref b6), (.ref r8), (.ref b7), (.ref b7)])) _
      refine XS.iconst X8.here hx rfl (hb hby d_method_3_39) ?_
      show Steps p.tables e below (T8.setTop (mkF m 40 #[.val (.int p1), .val (.int p2), .val (.ref b6), .val (.int ((p1.toUInt32 >>> ((9 : Int32) &&& 31).toUInt32).toInt32))] [(.int (1 : Int32)), (.int ((p1.toUInt32 >>> ((9 : Int32) &&& 31).toUInt32).toInt32)), (.int ((p1.toUInt32 >>> ((9 : Int32) &&& 31).toUInt32).toInt32)), (.ref b6), (.ref r8), (.ref b7), (.ref b7)])) _
      refine XS.iadd X8.here hx rfl (hb hby d_method_3_40) rfl ?_
      show Steps p.tables e below (T8.setTop (mkF m 41 #[.val (.int p1), .val (.int p2), .val (.ref b6), .val (.int ((p1.toUInt32 >>> ((9 : Int32) &&& 31).toUInt32).toInt32))] [(.int (((p1.toUInt32 >>> ((9 : Int32) &&& 31).toUInt32).toInt32) + (1 : Int32))), (.int ((p1.toUInt32 >>> ((9 : Int32) &&& 31).toUInt32).toInt32)), (.ref b6), (.ref r8), (.ref b7), (.ref b7)])) _
      exact k
    -- pc 41: com/example/nasute/nasute/sql/Token.<init>
    obtain ⟨_, _, ⟨T9, L9, k9, n9⟩, -, X9, ⟨Lc9, hQ9, l9, y9, z9⟩, st9⟩ := X8.specialBack hx (y := (⟨"com/example/nasute/nasute/sql/Token", "<init>", "(Lcom/example/nasute/nasute/sql/Token$Type;Ljava/lang/String;II)V"⟩ : MethodName)) rfl hown (mvT hZ (hw _ (own_g (i := 39) rfl))) (mvT hZ (hw _ (own_g (i := 40) rfl))) (mvT hZ (hw _ (own_g (i := 41) rfl))) (by decide) (backOf (W := 1) (rmTkI l Z a0 hw [] b7 r8 b6 ((p1.toUInt32 >>> ((9 : Int32) &&& 31).toUInt32).toInt32) (((p1.toUInt32 >>> ((9 : Int32) &&& 31).toUInt32).toInt32) + (1 : Int32)) h7 n0 O A7 F7_type F7_value F7_offset F7_end g_b7) hZ (hw _ (own_g (i := 41) rfl)) (hw _ (own_g (i := 32) rfl)) (by decide) (by decide)) (g := (mkF m 41 #[.val (.int p1), .val (.int p2), .val (.ref b6), .val (.int ((p1.toUInt32 >>> ((9 : Int32) &&& 31).toUInt32).toInt32))] [(.int (((p1.toUInt32 >>> ((9 : Int32) &&& 31).toUInt32).toInt32) + (1 : Int32))), (.int ((p1.toUInt32 >>> ((9 : Int32) &&& 31).toUInt32).toInt32)), (.ref b6), (.ref r8), (.ref b7), (.ref b7)])) rfl (by rw [hml]; rfl) (Steps.refl _) (a := b7) (argsL := [(.ref r8), (.ref b6), (.int ((p1.toUInt32 >>> ((9 : Int32) &&& 31).toUInt32).toInt32)), (.int (((p1.toUInt32 >>> ((9 : Int32) &&& 31).toUInt32).toInt32) + (1 : Int32)))]) (rest := [(.ref b7)]) (lenOf pd_6 rfl) rfl (by show 2 * 0 + _ ≤ _; exact Nat.le_of_eq rfl) (hb hby d_method_3_41) (fun _ hWm => ⟨rfl, Kq8, (by decide : 3 + 0 ≤ _), (by decide : 8 + 0 ≤ _)⟩)
    dsimp only [Pt.U, Pt.locs, Pt.cells, Pt.slots] at X9 l9 y9 z9 st9 hQ9
    subst l9 y9 z9
    obtain ⟨rfl, Nq9, Kq9⟩ := hQ9
    replace N := Fr.app N Nq9
    replace A7 := A7.keep Kq9
    clear F7_type
    clear F7_value
    clear F7_offset
    clear F7_end
    replace O := O.keep Kq9 (allS g_b7 all0)
    replace hk := Nat.le_trans hk Kq9.1
    replace K := K.trans Kq9 (allS (Or.inr s_b7) all0)
    refine own_go (B := T9.setTop (mkF m 44 #[.val (.int p1), .val (.int p2), .val (.ref b6), .val (.int ((p1.toUInt32 >>> ((9 : Int32) &&& 31).toUInt32).toInt32))] [(.ref b7)])) (fun t k => st9.trans k) ?_
    obtain ⟨fs, hr, hrun, hended, hEnd⟩ := X9.leaveW hS hk (v := some (.ref b7)) (fun h => by rw [Bd.returns] at h; cases h)
    refine ⟨_, _, own_retA X9 hx rfl Bd.returns rfl (hb hby d_method_3_44) hr, hfin _ _ ⟨hrun, hended, _, _, rfl, ?_, hEnd.1, hEnd.2.1, hEnd.2.2.1, hEnd.2.2.2.mono (by decide) (by decide)⟩⟩
    show QTok Z p1 p2 w0 w1 w2 w3 w4 w5 zc h0 n0 _ T9.heap _
    exact ⟨b7, rfl, N, K, s_b7, A7⟩
def QMin (Z : State) (p1 : Int32) (p2 : Int32) (h0 : Heap) (n0 : Nat) (v : Option Value) (h : Heap) (L : List Loc) : Prop := ∃ b : Int32, v = some (.int b) ∧ Fr n0 L ∧ h = h0 ∧ (b = if p2 < p1 then p2 else p1)
theorem ef_Min (m : MethodId) (p1 : Int32) (p2 : Int32) : entryFrame m #[(.int p1), (.int p2)] 2 = mkF m 0 #[.val (.int p1), .val (.int p2)] [] := by first | (simp [entryFrame, mkF, argsToLocals, Value.category]; done) | rfl | (rfl)
set_option maxRecDepth 65536 in
set_option maxHeartbeats 40000000 in
theorem rmMin (l : Launch) (Z : State) (a0 : Array Value) (hw : ∀ d ∈ tables_1, d.before a0 Z = true) (ws : List Jvm.Cond) (p1 : Int32) (p2 : Int32) (h0 : Heap) (n0 : Nat) (O : Old Z n0 h0)  :
    MetFree l (⟨"java/lang/Math", "min", "(II)I"⟩ : MethodName) (head1 (Jvm.Cond.code (⟨"java/lang/Math", "min", "(II)I"⟩ : MethodName) jdk_29_method_69_code 2 (some .int) :: ws) ({ frames := 0, cells := 0, slots := 0, locals := 0 } : Room)) (fun as_ U => as_ = #[(.int p1), (.int p2)] ∧ Z.Warmed39 U.vm ∧ U.heap = h0) (fun _ _ _ _ _ => True) (fun _ U oo_ U' => ∃ vv_ LL_, oo_ = .returned vv_ ∧ QMin Z p1 p2 h0 n0 vv_ U'.heap LL_ ∧ FrameEnd U oo_ U' LL_ ({ frames := 0, cells := 0, slots := 0, locals := 0 } : Room).cells ({ frames := 0, cells := 0, slots := 0, locals := 0 } : Room).slots) := by
  refine MetFree.of_bodySF (Jvm.Free.JP.mathPlain rfl (by decide +kernel)) hisR ?_
  intro p e s m args below meth c s₁ Bd hml0 hP hK
  obtain ⟨rfl, hZ, hh⟩ := hP
  have hx := Bd.exec
  have hby := Bd.bytes
  have hml : c.maxLocals = 2 := hml0
  have hown : s.vm.findClass "java/lang/Math" = some m.cls := findClass_of_methodNamed Bd.named
  have hnm := (name_of_methodNamed Bd.named Bd.method).1
  have X0 : Stand p l e ({ frames := 0, cells := 0, slots := 0, locals := 0 } : Room) s m #[(.int p1), (.int p2)] below meth c s₁ [] 0 0 := Stand.of_body Bd
  have e0 : s₁.heap = h0 := by rw [← hh, Bd.state]; rfl
  have N := Fr.nil n0
  have K : Keep h0 h0 [] := Keep.refl h0 _
  refine own_go (B := s₁.setTop (mkF m 0 #[.val (.int p1), .val (.int p2)] [])) (fun t k => castTop (ef_Min m p1 p2) k) ?_
  refine own_abs (fun P hfin => ?_)
  refine own_go (B := s₁.setTop (mkF m 2 #[.val (.int p1), .val (.int p2)] [(.int p2), (.int p1)])) (fun t k => ?_) ?_
  · show Steps p.tables e below (s₁.setTop (mkF m 0 #[.val (.int p1), .val (.int p2)] [])) _
    refine XS.iloadN X0.here hx rfl (hb hby d_jdk_29_method_69_0) rfl ?_
    show Steps p.tables e below (s₁.setTop (mkF m 1 #[.val (.int p1), .val (.int p2)] [(.int p1)])) _
    refine XS.iloadN X0.here hx rfl (hb hby d_jdk_29_method_69_1) rfl ?_
    show Steps p.tables e below (s₁.setTop (mkF m 2 #[.val (.int p1), .val (.int p2)] [(.int p2), (.int p1)])) _
    exact k
  by_cases s2 : p2 < p1
  · refine own_go (B := s₁.setTop (mkF m 10 #[.val (.int p1), .val (.int p2)] [(.int p2)])) (fun t k => ?_) ?_
    · show Steps p.tables e below (s₁.setTop (mkF m 2 #[.val (.int p1), .val (.int p2)] [(.int p2), (.int p1)])) _
      refine XS.icmpYes X0.here hx rfl (pc0 := 2) (pc' := 9) rfl (hb hby d_jdk_29_method_69_2) rfl (tlt s2).2.2.1 (by decide) (by decide) ?_
      show Steps p.tables e below (s₁.setTop (mkF m 9 #[.val (.int p1), .val (.int p2)] [])) _
      refine XS.iloadN X0.here hx rfl (hb hby d_jdk_29_method_69_9) rfl ?_
      show Steps p.tables e below (s₁.setTop (mkF m 10 #[.val (.int p1), .val (.int p2)] [(.int p2)])) _
      exact k
    obtain ⟨fs, hr, hrun, hended, hW, hsame⟩ := X0.leave (v := some (.int p2)) (fun h => by rw [Bd.returns] at h; cases h)
    refine ⟨_, _, retI X0 hx Bd.returns (hb hby d_jdk_29_method_69_10) hr, hfin _ _ ⟨hrun, hended, _, _, rfl, ?_, ⟨_, rfl⟩, hW, hsame.mono (by decide) (by decide)⟩⟩
    show QMin Z p1 p2 h0 n0 _ s₁.heap _
    exact ⟨p2, rfl, N, e0, (if_pos s2).symm⟩
  · refine own_go (B := s₁.setTop (mkF m 10 #[.val (.int p1), .val (.int p2)] [(.int p1)])) (fun t k => ?_) ?_
    · show Steps p.tables e below (s₁.setTop (mkF m 2 #[.val (.int p1), .val (.int p2)] [(.int p2), (.int p1)])) _
      refine XS.icmpNo X0.here hx rfl (hb hby d_jdk_29_method_69_2) rfl (flt s2).2.2.1 ?_
      show Steps p.tables e below (s₁.setTop (mkF m 5 #[.val (.int p1), .val (.int p2)] [])) _
      refine XS.iloadN X0.here hx rfl (hb hby d_jdk_29_method_69_5) rfl ?_
      show Steps p.tables e below (s₁.setTop (mkF m 6 #[.val (.int p1), .val (.int p2)] [(.int p1)])) _
      refine XS.goto X0.here hx rfl (pc0 := 6) (pc' := 10) rfl (hb hby d_jdk_29_method_69_6) (by decide) (by decide) ?_
      show Steps p.tables e below (s₁.setTop (mkF m 10 #[.val (.int p1), .val (.int p2)] [(.int p1)])) _
      exact k
    obtain ⟨fs, hr, hrun, hended, hW, hsame⟩ := X0.leave (v := some (.int p1)) (fun h => by rw [Bd.returns] at h; cases h)
    refine ⟨_, _, retI X0 hx Bd.returns (hb hby d_jdk_29_method_69_10) hr, hfin _ _ ⟨hrun, hended, _, _, rfl, ?_, ⟨_, rfl⟩, hW, hsame.mono (by decide) (by decide)⟩⟩
    show QMin Z p1 p2 h0 n0 _ s₁.heap _
    exact ⟨p1, rfl, N, e0, (if_neg s2).symm⟩
def QMax (Z : State) (p2 : Int32) (h0 : Heap) (n0 : Nat) (v : Option Value) (h : Heap) (L : List Loc) : Prop := v = some (.int (10 : Int32)) ∧ Fr n0 L ∧ h = h0
theorem ef_Max (m : MethodId) (p2 : Int32) : entryFrame m #[(.int (10 : Int32)), (.int p2)] 2 = mkF m 0 #[.val (.int (10 : Int32)), .val (.int p2)] [] := by first | (simp [entryFrame, mkF, argsToLocals, Value.category]; done) | rfl | (rfl)
set_option maxRecDepth 65536 in
set_option maxHeartbeats 40000000 in
theorem rmMax (l : Launch) (Z : State) (a0 : Array Value) (hw : ∀ d ∈ tables_1, d.before a0 Z = true) (ws : List Jvm.Cond) (p2 : Int32) (h0 : Heap) (n0 : Nat) (O : Old Z n0 h0) (hq : ¬ (10 : Int32) < p2) :
    MetFree l (⟨"java/lang/Math", "max", "(II)I"⟩ : MethodName) (head1 (Jvm.Cond.code (⟨"java/lang/Math", "max", "(II)I"⟩ : MethodName) jdk_29_method_65_code 2 (some .int) :: ws) ({ frames := 0, cells := 0, slots := 0, locals := 0 } : Room)) (fun as_ U => as_ = #[(.int (10 : Int32)), (.int p2)] ∧ Z.Warmed39 U.vm ∧ U.heap = h0) (fun _ _ _ _ _ => True) (fun _ U oo_ U' => ∃ vv_ LL_, oo_ = .returned vv_ ∧ QMax Z p2 h0 n0 vv_ U'.heap LL_ ∧ FrameEnd U oo_ U' LL_ ({ frames := 0, cells := 0, slots := 0, locals := 0 } : Room).cells ({ frames := 0, cells := 0, slots := 0, locals := 0 } : Room).slots) := by
  refine MetFree.of_bodySF (Jvm.Free.JP.mathPlain rfl (by decide +kernel)) hisR ?_
  intro p e s m args below meth c s₁ Bd hml0 hP hK
  obtain ⟨rfl, hZ, hh⟩ := hP
  have hx := Bd.exec
  have hby := Bd.bytes
  have hml : c.maxLocals = 2 := hml0
  have hown : s.vm.findClass "java/lang/Math" = some m.cls := findClass_of_methodNamed Bd.named
  have hnm := (name_of_methodNamed Bd.named Bd.method).1
  have X0 : Stand p l e ({ frames := 0, cells := 0, slots := 0, locals := 0 } : Room) s m #[(.int (10 : Int32)), (.int p2)] below meth c s₁ [] 0 0 := Stand.of_body Bd
  have e0 : s₁.heap = h0 := by rw [← hh, Bd.state]; rfl
  have N := Fr.nil n0
  have K : Keep h0 h0 [] := Keep.refl h0 _
  refine own_go (B := s₁.setTop (mkF m 0 #[.val (.int (10 : Int32)), .val (.int p2)] [])) (fun t k => castTop (ef_Max m p2) k) ?_
  refine own_abs (fun P hfin => ?_)
  refine own_go (B := s₁.setTop (mkF m 10 #[.val (.int (10 : Int32)), .val (.int p2)] [(.int (10 : Int32))])) (fun t k => ?_) ?_
  · show Steps p.tables e below (s₁.setTop (mkF m 0 #[.val (.int (10 : Int32)), .val (.int p2)] [])) _
    refine XS.iloadN X0.here hx rfl (hb hby d_jdk_29_method_65_0) rfl ?_
    show Steps p.tables e below (s₁.setTop (mkF m 1 #[.val (.int (10 : Int32)), .val (.int p2)] [(.int (10 : Int32))])) _
    refine XS.iloadN X0.here hx rfl (hb hby d_jdk_29_method_65_1) rfl ?_
    show Steps p.tables e below (s₁.setTop (mkF m 2 #[.val (.int (10 : Int32)), .val (.int p2)] [(.int p2), (.int (10 : Int32))])) _
    refine XS.icmpNo X0.here hx rfl (hb hby d_jdk_29_method_65_2) rfl (flt hq).1 ?_
    show Steps p.tables e below (s₁.setTop (mkF m 5 #[.val (.int (10 : Int32)), .val (.int p2)] [])) _
    refine XS.iloadN X0.here hx rfl (hb hby d_jdk_29_method_65_5) rfl ?_
    show Steps p.tables e below (s₁.setTop (mkF m 6 #[.val (.int (10 : Int32)), .val (.int p2)] [(.int (10 : Int32))])) _
    refine XS.goto X0.here hx rfl (pc0 := 6) (pc' := 10) rfl (hb hby d_jdk_29_method_65_6) (by decide) (by decide) ?_
    show Steps p.tables e below (s₁.setTop (mkF m 10 #[.val (.int (10 : Int32)), .val (.int p2)] [(.int (10 : Int32))])) _
    exact k
  obtain ⟨fs, hr, hrun, hended, hW, hsame⟩ := X0.leave (v := some (.int (10 : Int32))) (fun h => by rw [Bd.returns] at h; cases h)
  refine ⟨_, _, retI X0 hx Bd.returns (hb hby d_jdk_29_method_65_10) hr, hfin _ _ ⟨hrun, hended, _, _, rfl, ?_, ⟨_, rfl⟩, hW, hsame.mono (by decide) (by decide)⟩⟩
  show QMax Z p2 h0 n0 _ s₁.heap _
  exact ⟨rfl, N, e0⟩
def QAbC (Z : State) (a : Addr) (h0 : Heap) (n0 : Nat) (v : Option Value) (h : Heap) (L : List Loc) : Prop := v = none ∧ Fr n0 L ∧ h = h0
theorem ef_AbC (m : MethodId) (a : Addr) : entryFrame m #[(.ref a)] 1 = mkF m 0 #[.val (.ref a)] [] := by first | (simp [entryFrame, mkF, argsToLocals, Value.category]; done) | rfl | (rfl)
set_option maxRecDepth 65536 in
set_option maxHeartbeats 40000000 in
theorem rmAbC (l : Launch) (Z : State) (a0 : Array Value) (hw : ∀ d ∈ tables_1, d.before a0 Z = true) (ws : List Jvm.Cond) (a : Addr) (h0 : Heap) (n0 : Nat) (O : Old Z n0 h0)  :
    MetFree l (⟨"java/util/AbstractCollection", "<init>", "()V"⟩ : MethodName) (head1 (Jvm.Cond.code (⟨"java/util/AbstractCollection", "<init>", "()V"⟩ : MethodName) jdk_22_method_1_code 1 none :: ws) ({ frames := 1, cells := 0, slots := 0, locals := 12 } : Room)) (fun as_ U => as_ = #[(.ref a)] ∧ Z.Warmed39 U.vm ∧ U.heap = h0) (fun _ _ _ _ _ => True) (fun _ U oo_ U' => ∃ vv_ LL_, oo_ = .returned vv_ ∧ QAbC Z a h0 n0 vv_ U'.heap LL_ ∧ FrameEnd U oo_ U' LL_ ({ frames := 1, cells := 0, slots := 0, locals := 12 } : Room).cells ({ frames := 1, cells := 0, slots := 0, locals := 12 } : Room).slots) := by
  refine MetFree.of_bodySF (plainFor_of_name pn_5) hisR ?_
  intro p e s m args below meth c s₁ Bd hml0 hP hK
  obtain ⟨rfl, hZ, hh⟩ := hP
  have hx := Bd.exec
  have hby := Bd.bytes
  have hml : c.maxLocals = 1 := hml0
  have hown : s.vm.findClass "java/util/AbstractCollection" = some m.cls := findClass_of_methodNamed Bd.named
  have hnm := (name_of_methodNamed Bd.named Bd.method).1
  have X0 : Stand p l e ({ frames := 1, cells := 0, slots := 0, locals := 12 } : Room) s m #[(.ref a)] below meth c s₁ [] 0 0 := Stand.of_body Bd
  have e0 : s₁.heap = h0 := by rw [← hh, Bd.state]; rfl
  have N := Fr.nil n0
  have K : Keep h0 h0 [] := Keep.refl h0 _
  refine own_go (B := s₁.setTop (mkF m 0 #[.val (.ref a)] [])) (fun t k => castTop (ef_AbC m a) k) ?_
  refine own_abs (fun P hfin => ?_)
  refine own_go (B := s₁.setTop (mkF m 1 #[.val (.ref a)] [(.ref a)])) (fun t k => ?_) ?_
  · show Steps p.tables e below (s₁.setTop (mkF m 0 #[.val (.ref a)] [])) _
    refine XS.aloadN X0.here hx rfl (hb hby d_jdk_22_method_1_0) rfl rfl ?_
    show Steps p.tables e below (s₁.setTop (mkF m 1 #[.val (.ref a)] [(.ref a)])) _
    exact k
  obtain ⟨T1, X1, e1, st1⟩ := initO X0 hx hZ hown (hw _ (own_g (i := 76) rfl)) (hw _ (own_g (i := 24) rfl)) (hw _ (own_g (i := 25) rfl)) e0 (g := (mkF m 1 #[.val (.ref a)] [(.ref a)])) rfl (by rw [hml]; rfl) rfl (hb hby d_jdk_22_method_1_1) (by decide) (W := 0) (by show 2 * 0 + _ ≤ _; exact Nat.le_of_eq rfl) (by decide)
  refine own_go (B := T1.setTop (mkF m 4 #[.val (.ref a)] [])) st1 ?_
  obtain ⟨fs, hr, hrun, hended, hW, hsame⟩ := X1.leave (v := none) (fun _ => rfl)
  refine ⟨_, _, X1.returnOut hx Bd.returns (hb hby d_jdk_22_method_1_4) hr, hfin _ _ ⟨hrun, hended, _, _, rfl, ?_, ⟨_, rfl⟩, hW, hsame.mono (by decide) (by decide)⟩⟩
  show QAbC Z a h0 n0 _ T1.heap _
  exact ⟨rfl, N, e1⟩
def QAbL (Z : State) (a : Addr) (h0 : Heap) (n0 : Nat) (v : Option Value) (h : Heap) (L : List Loc) : Prop := v = none ∧ Fr n0 L ∧ Keep h0 h [a] ∧ Fld Z h a "java/util/AbstractList" "modCount" "I" (.int (0 : Int32)) ∧ Fld Z h a "java/util/ArrayList" "elementData" "[Ljava/lang/Object;" .null ∧ Fld Z h a "java/util/ArrayList" "size" "I" (.int (0 : Int32))
theorem ef_AbL (m : MethodId) (a : Addr) : entryFrame m #[(.ref a)] 1 = mkF m 0 #[.val (.ref a)] [] := by first | (simp [entryFrame, mkF, argsToLocals, Value.category]; done) | rfl | (rfl)
set_option maxRecDepth 65536 in
set_option maxHeartbeats 40000000 in
theorem rmAbL (l : Launch) (Z : State) (a0 : Array Value) (hw : ∀ d ∈ tables_1, d.before a0 Z = true) (ws : List Jvm.Cond) (a : Addr) (h0 : Heap) (n0 : Nat) (O : Old Z n0 h0) (E : Exa Z h0 a "java/util/ArrayList") (F1 : Fld Z h0 a "java/util/AbstractList" "modCount" "I" (.int (0 : Int32))) (F2 : Fld Z h0 a "java/util/ArrayList" "elementData" "[Ljava/lang/Object;" .null) (F3 : Fld Z h0 a "java/util/ArrayList" "size" "I" (.int (0 : Int32))) (ga : n0 ≤ a) :
    MetFree l (⟨"java/util/AbstractList", "<init>", "()V"⟩ : MethodName) (head1 (Jvm.Cond.code (⟨"java/util/AbstractList", "<init>", "()V"⟩ : MethodName) jdk_39_method_1_code 1 none :: ws) ({ frames := 2, cells := 0, slots := 0, locals := 24 } : Room)) (fun as_ U => as_ = #[(.ref a)] ∧ Z.Warmed39 U.vm ∧ U.heap = h0) (fun _ _ _ _ _ => True) (fun _ U oo_ U' => ∃ vv_ LL_, oo_ = .returned vv_ ∧ QAbL Z a h0 n0 vv_ U'.heap LL_ ∧ FrameEnd U oo_ U' LL_ ({ frames := 2, cells := 0, slots := 0, locals := 24 } : Room).cells ({ frames := 2, cells := 0, slots := 0, locals := 24 } : Room).slots) := by
  refine MetFree.of_bodySF (plainFor_of_name pn_6) hisR ?_
  intro p e s m args below meth c s₁ Bd hml0 hP hK
  obtain ⟨rfl, hZ, hh⟩ := hP
  have hx := Bd.exec
  have hby := Bd.bytes
  have hml : c.maxLocals = 1 := hml0
  have hown : s.vm.findClass "java/util/AbstractList" = some m.cls := findClass_of_methodNamed Bd.named
  have hnm := (name_of_methodNamed Bd.named Bd.method).1
  have X0 : Stand p l e ({ frames := 2, cells := 0, slots := 0, locals := 24 } : Room) s m #[(.ref a)] below meth c s₁ [] 0 0 := Stand.of_body Bd
  have e0 : s₁.heap = h0 := by rw [← hh, Bd.state]; rfl
  have N := Fr.nil n0
  have K : Keep h0 h0 [a] := Keep.refl h0 _
  refine own_go (B := s₁.setTop (mkF m 0 #[.val (.ref a)] [])) (fun t k => castTop (ef_AbL m a) k) ?_
  refine own_abs (fun P hfin => ?_)
  refine own_go (B := s₁.setTop (mkF m 1 #[.val (.ref a)] [(.ref a)])) (fun t k => ?_) ?_
  · show Steps p.tables e below (s₁.setTop (mkF m 0 #[.val (.ref a)] [])) _
    refine XS.aloadN X0.here hx rfl (hb hby d_jdk_39_method_1_0) rfl rfl ?_
    show Steps p.tables e below (s₁.setTop (mkF m 1 #[.val (.ref a)] [(.ref a)])) _
    exact k
  -- pc 1: java/util/AbstractCollection.<init>
  obtain ⟨_, _, ⟨T1, L1, k1, n1⟩, -, X1, ⟨Lc1, hQ1, l1, y1, z1⟩, st1⟩ := X0.specialBack hx (y := (⟨"java/util/AbstractCollection", "<init>", "()V"⟩ : MethodName)) rfl hown (mvT hZ (hw _ (own_g (i := 70) rfl))) (mvT hZ (hw _ (own_g (i := 71) rfl))) (mvT hZ (hw _ (own_g (i := 75) rfl))) (by decide) (backOf (W := 0) (rmAbC l Z a0 hw [] a h0 n0 O ) hZ (hw _ (own_g (i := 75) rfl)) (hw _ (own_g (i := 74) rfl)) (by decide) (by decide)) (g := (mkF m 1 #[.val (.ref a)] [(.ref a)])) rfl (by rw [hml]; rfl) (Steps.refl _) (a := a) (argsL := []) (rest := []) (lenOf pd_3 rfl) rfl (by show 2 * 0 + _ ≤ _; exact Nat.le_of_eq rfl) (hb hby d_jdk_39_method_1_1) (fun _ hWm => ⟨rfl, e0, (by decide : 0 + 0 ≤ _), (by decide : 0 + 0 ≤ _)⟩)
  dsimp only [Pt.U, Pt.locs, Pt.cells, Pt.slots] at X1 l1 y1 z1 st1 hQ1
  subst l1 y1 z1
  obtain ⟨rfl, Nq1, Kq1⟩ := hQ1
  replace N := Fr.app N Nq1
  refine own_go (B := T1.setTop (mkF m 4 #[.val (.ref a)] [])) (fun t k => st1.trans k) ?_
  refine own_go (B := T1.setTop (mkF m 6 #[.val (.ref a)] [(.int (0 : Int32)), (.ref a)])) (fun t k => ?_) ?_
  · show Steps p.tables e below (T1.setTop (mkF m 4 #[.val (.ref a)] [])) _
    refine XS.aloadN X1.here hx rfl (hb hby d_jdk_39_method_1_4) rfl rfl ?_
    show Steps p.tables e below (T1.setTop (mkF m 5 #[.val (.ref a)] [(.ref a)])) _
    refine XS.iconst X1.here hx rfl (hb hby d_jdk_39_method_1_5) ?_
    show Steps p.tables e below (T1.setTop (mkF m 6 #[.val (.ref a)] [(.int (0 : Int32)), (.ref a)])) _
    exact k
  obtain ⟨T2, h2, X2, e2, W2, st2⟩ := putF X1 hx hZ hown (host := "") (Or.inl (hw _ (own_g (i := 77) rfl))) Via.refl Kq1 F1 E (Or.inl (hw _ (own_g (i := 78) rfl))) (hw _ (own_g (i := 59) rfl)) (ty := .int) (by decide) rfl rfl (g := (mkF m 6 #[.val (.ref a)] [(.int (0 : Int32)), (.ref a)])) rfl rfl (hb hby d_jdk_39_method_1_6)
  have Fw2 := F1.same W2
  replace E := E.wr W2
  clear F1
  replace F2 := F2.other W2 (Or.inr (slot_ne (Or.inl (hw _ (own_g (i := 81) rfl))) (Or.inl (hw _ (own_g (i := 78) rfl))) (by decide) (t := (.array (.object "java/lang/Object"))) (t' := .int) (by decide) (by decide)))
  replace F3 := F3.other W2 (Or.inr (slot_ne (Or.inl (hw _ (own_g (i := 126) rfl))) (Or.inl (hw _ (own_g (i := 78) rfl))) (by decide) (t := .int) (t' := .int) (by decide) (by decide)))
  replace O := O.wr W2 ga
  replace K := K.wr W2 (Or.inl (own_g (i := 0) rfl))
  replace N := Fr.snoc X2 N ga
  refine own_go (B := T2.setTop (mkF m 9 #[.val (.ref a)] [])) st2 ?_
  obtain ⟨fs, hr, hrun, hended, hW, hsame⟩ := X2.leave (v := none) (fun _ => rfl)
  refine ⟨_, _, X2.returnOut hx Bd.returns (hb hby d_jdk_39_method_1_9) hr, hfin _ _ ⟨hrun, hended, _, _, rfl, ?_, ⟨_, rfl⟩, hW, hsame.mono (by decide) (by decide)⟩⟩
  show QAbL Z a h0 n0 _ T2.heap _
  rw [e2]
  exact ⟨rfl, N, K, Fw2, F2, F3⟩
def QAlI (Z : State) (a : Addr) (dz : Addr) (h0 : Heap) (n0 : Nat) (v : Option Value) (h : Heap) (L : List Loc) : Prop := v = none ∧ Fr n0 L ∧ Keep h0 h [a] ∧ Fld Z h a "java/util/AbstractList" "modCount" "I" (.int (0 : Int32)) ∧ Fld Z h a "java/util/ArrayList" "elementData" "[Ljava/lang/Object;" (.ref dz) ∧ Fld Z h a "java/util/ArrayList" "size" "I" (.int (0 : Int32))
theorem ef_AlI (m : MethodId) (a : Addr) : entryFrame m #[(.ref a)] 1 = mkF m 0 #[.val (.ref a)] [] := by first | (simp [entryFrame, mkF, argsToLocals, Value.category]; done) | rfl | (rfl)
set_option maxRecDepth 65536 in
set_option maxHeartbeats 40000000 in
theorem rmAlI (l : Launch) (Z : State) (a0 : Array Value) (hw : ∀ d ∈ tables_1, d.before a0 Z = true) (ws : List Jvm.Cond) (a : Addr) (dz : Addr) (h0 : Heap) (n0 : Nat) (O : Old Z n0 h0) (E : Exa Z h0 a "java/util/ArrayList") (F1 : Fld Z h0 a "java/util/AbstractList" "modCount" "I" (.int (0 : Int32))) (F2 : Fld Z h0 a "java/util/ArrayList" "elementData" "[Ljava/lang/Object;" .null) (F3 : Fld Z h0 a "java/util/ArrayList" "size" "I" (.int (0 : Int32))) (ga : n0 ≤ a) (S_D : Sta Z Z.heap "java/util/ArrayList" "DEFAULTCAPACITY_EMPTY_ELEMENTDATA" "[Ljava/lang/Object;" (.ref dz)) :
    MetFree l (⟨"java/util/ArrayList", "<init>", "()V"⟩ : MethodName) (head1 (Jvm.Cond.code (⟨"java/util/ArrayList", "<init>", "()V"⟩ : MethodName) jdk_38_method_2_code 1 none :: ws) ({ frames := 3, cells := 0, slots := 0, locals := 36 } : Room)) (fun as_ U => as_ = #[(.ref a)] ∧ Z.Warmed39 U.vm ∧ U.heap = h0) (fun _ _ _ _ _ => True) (fun _ U oo_ U' => ∃ vv_ LL_, oo_ = .returned vv_ ∧ QAlI Z a dz h0 n0 vv_ U'.heap LL_ ∧ FrameEnd U oo_ U' LL_ ({ frames := 3, cells := 0, slots := 0, locals := 36 } : Room).cells ({ frames := 3, cells := 0, slots := 0, locals := 36 } : Room).slots) := by
  refine MetFree.of_bodySF (plainFor_of_name pn_7) hisR ?_
  intro p e s m args below meth c s₁ Bd hml0 hP hK
  obtain ⟨rfl, hZ, hh⟩ := hP
  have hx := Bd.exec
  have hby := Bd.bytes
  have hml : c.maxLocals = 1 := hml0
  have hown : s.vm.findClass "java/util/ArrayList" = some m.cls := findClass_of_methodNamed Bd.named
  have hnm := (name_of_methodNamed Bd.named Bd.method).1
  have X0 : Stand p l e ({ frames := 3, cells := 0, slots := 0, locals := 36 } : Room) s m #[(.ref a)] below meth c s₁ [] 0 0 := Stand.of_body Bd
  have e0 : s₁.heap = h0 := by rw [← hh, Bd.state]; rfl
  have N := Fr.nil n0
  have K : Keep h0 h0 [a] := Keep.refl h0 _
  refine own_go (B := s₁.setTop (mkF m 0 #[.val (.ref a)] [])) (fun t k => castTop (ef_AlI m a) k) ?_
  refine own_abs (fun P hfin => ?_)
  refine own_go (B := s₁.setTop (mkF m 1 #[.val (.ref a)] [(.ref a)])) (fun t k => ?_) ?_
  · show Steps p.tables e below (s₁.setTop (mkF m 0 #[.val (.ref a)] [])) _
    refine XS.aloadN X0.here hx rfl (hb hby d_jdk_38_method_2_0) rfl rfl ?_
    show Steps p.tables e below (s₁.setTop (mkF m 1 #[.val (.ref a)] [(.ref a)])) _
    exact k
  -- pc 1: java/util/AbstractList.<init>
  obtain ⟨_, _, ⟨T1, L1, k1, n1⟩, -, X1, ⟨Lc1, hQ1, l1, y1, z1⟩, st1⟩ := X0.specialBack hx (y := (⟨"java/util/AbstractList", "<init>", "()V"⟩ : MethodName)) rfl hown (mvT hZ (hw _ (own_g (i := 64) rfl))) (mvT hZ (hw _ (own_g (i := 65) rfl))) (mvT hZ (hw _ (own_g (i := 69) rfl))) (by decide) (backOf (W := 0) (rmAbL l Z a0 hw [] a h0 n0 O E F1 F2 F3 ga) hZ (hw _ (own_g (i := 69) rfl)) (hw _ (own_g (i := 68) rfl)) (by decide) (by decide)) (g := (mkF m 1 #[.val (.ref a)] [(.ref a)])) rfl (by rw [hml]; rfl) (Steps.refl _) (a := a) (argsL := []) (rest := []) (lenOf pd_3 rfl) rfl (by show 2 * 0 + _ ≤ _; exact Nat.le_of_eq rfl) (hb hby d_jdk_38_method_2_1) (fun _ hWm => ⟨rfl, e0, (by decide : 0 + 0 ≤ _), (by decide : 0 + 0 ≤ _)⟩)
  dsimp only [Pt.U, Pt.locs, Pt.cells, Pt.slots] at X1 l1 y1 z1 st1 hQ1
  subst l1 y1 z1
  obtain ⟨rfl, Nq1, Kq1, Gq1_0, Gq1_1, Gq1_2⟩ := hQ1
  replace N := Fr.app N Nq1
  replace E := E.keep Kq1
  clear F1
  clear F2
  clear F3
  replace O := O.keep Kq1 (allS ga all0)
  replace K := K.trans Kq1 (allS (Or.inl (own_g (i := 0) rfl)) all0)
  refine own_go (B := T1.setTop (mkF m 4 #[.val (.ref a)] [])) (fun t k => st1.trans k) ?_
  refine own_go (B := T1.setTop (mkF m 5 #[.val (.ref a)] [(.ref a)])) (fun t k => ?_) ?_
  · show Steps p.tables e below (T1.setTop (mkF m 4 #[.val (.ref a)] [])) _
    refine XS.aloadN X1.here hx rfl (hb hby d_jdk_38_method_2_4) rfl rfl ?_
    show Steps p.tables e below (T1.setTop (mkF m 5 #[.val (.ref a)] [(.ref a)])) _
    exact k
  obtain ⟨T2, X2, e2, st2⟩ := getS2 X1 hx hZ hown (host := "") (Or.inl (hw _ (own_g (i := 79) rfl))) Via.refl rfl (S_D.ext O.2) (g := (mkF m 5 #[.val (.ref a)] [(.ref a)])) rfl (hb hby d_jdk_38_method_2_5)
  refine own_go (B := T2.setTop (mkF m 8 #[.val (.ref a)] [(.ref dz), (.ref a)])) st2 ?_
  obtain ⟨T3, h3, X3, e3, W3, st3⟩ := putF X2 hx hZ hown (host := "") (Or.inl (hw _ (own_g (i := 80) rfl))) Via.refl e2 Gq1_1 E (Or.inl (hw _ (own_g (i := 81) rfl))) (hw _ (own_g (i := 59) rfl)) (ty := (.array (.object "java/lang/Object"))) (by decide) rfl rfl (g := (mkF m 8 #[.val (.ref a)] [(.ref dz), (.ref a)])) rfl rfl (hb hby d_jdk_38_method_2_8)
  have Fw3 := Gq1_1.same W3
  replace E := E.wr W3
  replace Gq1_0 := Gq1_0.other W3 (Or.inr (slot_ne (Or.inl (hw _ (own_g (i := 78) rfl))) (Or.inl (hw _ (own_g (i := 81) rfl))) (by decide) (t := .int) (t' := (.array (.object "java/lang/Object"))) (by decide) (by decide)))
  clear Gq1_1
  replace Gq1_2 := Gq1_2.other W3 (Or.inr (slot_ne (Or.inl (hw _ (own_g (i := 126) rfl))) (Or.inl (hw _ (own_g (i := 81) rfl))) (by decide) (t := .int) (t' := (.array (.object "java/lang/Object"))) (by decide) (by decide)))
  replace O := O.wr W3 ga
  replace K := K.wr W3 (Or.inl (own_g (i := 0) rfl))
  replace N := Fr.snoc X3 N ga
  refine own_go (B := T3.setTop (mkF m 11 #[.val (.ref a)] [])) st3 ?_
  obtain ⟨fs, hr, hrun, hended, hW, hsame⟩ := X3.leave (v := none) (fun _ => rfl)
  refine ⟨_, _, X3.returnOut hx Bd.returns (hb hby d_jdk_38_method_2_11) hr, hfin _ _ ⟨hrun, hended, _, _, rfl, ?_, ⟨_, rfl⟩, hW, hsame.mono (by decide) (by decide)⟩⟩
  show QAlI Z a dz h0 n0 _ T3.heap _
  rw [e3]
  exact ⟨rfl, N, K, Gq1_0, Fw3, Gq1_2⟩
def QGrI (Z : State) (a : Addr) (p1 : Int32) (mc : Int32) (dz : Addr) (kz : ClassId) (h0 : Heap) (n0 : Nat) (v : Option Value) (h : Heap) (L : List Loc) : Prop := ∃ da : Addr, ∃ kda : ClassId, v = some (.ref da) ∧ Fr n0 L ∧ Keep h0 h [a] ∧ h0.size ≤ da ∧ Fld Z h a "java/util/AbstractList" "modCount" "I" (.int mc) ∧ Fld Z h a "java/util/ArrayList" "elementData" "[Ljava/lang/Object;" (.ref da) ∧ Fld Z h a "java/util/ArrayList" "size" "I" (.int (0 : Int32)) ∧ Arv Z h da kda (.object "java/lang/Object") (10 : Int32) [.null, .null, .null, .null, .null, .null, .null, .null, .null, .null] .null ∧ (Ovr Z kda "java/lang/Object")
theorem ef_GrI (m : MethodId) (a : Addr) (p1 : Int32) : entryFrame m #[(.ref a), (.int p1)] 4 = mkF m 0 #[.val (.ref a), .val (.int p1), .unset, .unset] [] := by first | (simp [entryFrame, mkF, argsToLocals, Value.category]; done) | rfl | (rfl)
set_option maxRecDepth 65536 in
set_option maxHeartbeats 40000000 in
theorem rmGrI (l : Launch) (Z : State) (a0 : Array Value) (hw : ∀ d ∈ tables_1, d.before a0 Z = true) (ws : List Jvm.Cond) (a : Addr) (p1 : Int32) (mc : Int32) (dz : Addr) (kz : ClassId) (h0 : Heap) (n0 : Nat) (O : Old Z n0 h0) (E : Exa Z h0 a "java/util/ArrayList") (F1 : Fld Z h0 a "java/util/AbstractList" "modCount" "I" (.int mc)) (F2 : Fld Z h0 a "java/util/ArrayList" "elementData" "[Ljava/lang/Object;" (.ref dz)) (F3 : Fld Z h0 a "java/util/ArrayList" "size" "I" (.int (0 : Int32))) (ga : n0 ≤ a) (S_D : Sta Z Z.heap "java/util/ArrayList" "DEFAULTCAPACITY_EMPTY_ELEMENTDATA" "[Ljava/lang/Object;" (.ref dz)) (V_Z : Arv Z Z.heap dz kz (.object "java/lang/Object") (0 : Int32) [] .null) (hq : ¬ (10 : Int32) < p1) :
    MetFree l (⟨"java/util/ArrayList", "grow", "(I)[Ljava/lang/Object;"⟩ : MethodName) (head1 (Jvm.Cond.code (⟨"java/util/ArrayList", "grow", "(I)[Ljava/lang/Object;"⟩ : MethodName) jdk_38_method_6_code 4 (some (.array (.object "java/lang/Object"))) :: ws) ({ frames := 1, cells := 1, slots := 10, locals := 14 } : Room)) (fun as_ U => as_ = #[(.ref a), (.int p1)] ∧ Z.Warmed39 U.vm ∧ U.heap = h0) (fun _ _ _ _ _ => True) (fun _ U oo_ U' => ∃ vv_ LL_, oo_ = .returned vv_ ∧ QGrI Z a p1 mc dz kz h0 n0 vv_ U'.heap LL_ ∧ FrameEnd U oo_ U' LL_ ({ frames := 1, cells := 1, slots := 10, locals := 14 } : Room).cells ({ frames := 1, cells := 1, slots := 10, locals := 14 } : Room).slots) := by
  refine MetFree.of_bodySF (plainFor_of_name pn_7) hisR ?_
  intro p e s m args below meth c s₁ Bd hml0 hP hK
  obtain ⟨rfl, hZ, hh⟩ := hP
  have hx := Bd.exec
  have hby := Bd.bytes
  have hml : c.maxLocals = 4 := hml0
  have hown : s.vm.findClass "java/util/ArrayList" = some m.cls := findClass_of_methodNamed Bd.named
  have hnm := (name_of_methodNamed Bd.named Bd.method).1
  have X0 : Stand p l e ({ frames := 1, cells := 1, slots := 10, locals := 14 } : Room) s m #[(.ref a), (.int p1)] below meth c s₁ [] 0 0 := Stand.of_body Bd
  have e0 : s₁.heap = h0 := by rw [← hh, Bd.state]; rfl
  have N := Fr.nil n0
  have K : Keep h0 h0 [a] := Keep.refl h0 _
  refine own_go (B := s₁.setTop (mkF m 0 #[.val (.ref a), .val (.int p1), .unset, .unset] [])) (fun t k => castTop (ef_GrI m a p1) k) ?_
  refine own_abs (fun P hfin => ?_)
  refine own_go (B := s₁.setTop (mkF m 1 #[.val (.ref a), .val (.int p1), .unset, .unset] [(.ref a)])) (fun t k => ?_) ?_
  · show Steps p.tables e below (s₁.setTop (mkF m 0 #[.val (.ref a), .val (.int p1), .unset, .unset] [])) _
    refine XS.aloadN X0.here hx rfl (hb hby d_jdk_38_method_6_0) rfl rfl ?_
    show Steps p.tables e below (s₁.setTop (mkF m 1 #[.val (.ref a), .val (.int p1), .unset, .unset] [(.ref a)])) _
    exact k
  obtain ⟨T1, X1, e1, st1⟩ := getF X0 hx hZ hown (host := "") (Or.inl (hw _ (own_g (i := 80) rfl))) Via.refl e0 F2 (g := (mkF m 1 #[.val (.ref a), .val (.int p1), .unset, .unset] [(.ref a)])) rfl rfl (hb hby d_jdk_38_method_6_1)
  refine own_go (B := T1.setTop (mkF m 4 #[.val (.ref a), .val (.int p1), .unset, .unset] [(.ref dz)])) st1 ?_
  have st2 : ∀ target, Steps p.tables e below (T1.setTop (mkF m 5 #[.val (.ref a), .val (.int p1), .unset, .unset] [(.int (0 : Int32))])) target → Steps p.tables e below (T1.setTop (mkF m 4 #[.val (.ref a), .val (.int p1), .unset, .unset] [(.ref dz)])) target := by
    obtain ⟨cl, Ar, q, Sz, Nn, Hs, Gt⟩ := (V_Z.ext O.2)
    intro target kt
    refine X1.arraylength hx (by rw [e1]; exact Ar.1) (State.isArrayOf_alike hZ.alike Ar.2.1) (g := (mkF m 4 #[.val (.ref a), .val (.int p1), .unset, .unset] [(.ref dz)])) rfl rfl (hb hby d_jdk_38_method_6_4) _ ?_
    rw [len_of Sz Nn]
    exact kt
  refine own_go (B := T1.setTop (mkF m 5 #[.val (.ref a), .val (.int p1), .unset, .unset] [(.int (0 : Int32))])) st2 ?_
  refine own_go (B := T1.setTop (mkF m 11 #[.val (.ref a), .val (.int p1), .val (.int (0 : Int32)), .unset] [(.ref a)])) (fun t k => ?_) ?_
  · show Steps p.tables e below (T1.setTop (mkF m 5 #[.val (.ref a), .val (.int p1), .unset, .unset] [(.int (0 : Int32))])) _
    refine XS.istoreN X1.here hx rfl (hb hby d_jdk_38_method_6_5) rfl (l' := #[.val (.ref a), .val (.int p1), .val (.int (0 : Int32)), .unset]) rfl ?_
    show Steps p.tables e below (T1.setTop (mkF m 6 #[.val (.ref a), .val (.int p1), .val (.int (0 : Int32)), .unset] [])) _
    refine XS.iloadN X1.here hx rfl (hb hby d_jdk_38_method_6_6) rfl ?_
    show Steps p.tables e below (T1.setTop (mkF m 7 #[.val (.ref a), .val (.int p1), .val (.int (0 : Int32)), .unset] [(.int (0 : Int32))])) _
    refine XS.ifNo X1.here hx rfl (hb hby d_jdk_38_method_6_7) rfl ((if0 _ _).trans (flt (by decide)).2.2.1) ?_
    show Steps p.tables e below (T1.setTop (mkF m 10 #[.val (.ref a), .val (.int p1), .val (.int (0 : Int32)), .unset] [])) _
    refine XS.aloadN X1.here hx rfl (hb hby d_jdk_38_method_6_10) rfl rfl ?_
    show Steps p.tables e below (T1.setTop (mkF m 11 #[.val (.ref a), .val (.int p1), .val (.int (0 : Int32)), .unset] [(.ref a)])) _
    exact k
  obtain ⟨T3, X3, e3, st3⟩ := getF X1 hx hZ hown (host := "") (Or.inl (hw _ (own_g (i := 80) rfl))) Via.refl e1 F2 (g := (mkF m 11 #[.val (.ref a), .val (.int p1), .val (.int (0 : Int32)), .unset] [(.ref a)])) rfl rfl (hb hby d_jdk_38_method_6_11)
  refine own_go (B := T3.setTop (mkF m 14 #[.val (.ref a), .val (.int p1), .val (.int (0 : Int32)), .unset] [(.ref dz)])) st3 ?_
  obtain ⟨T4, X4, e4, st4⟩ := getS2 X3 hx hZ hown (host := "") (Or.inl (hw _ (own_g (i := 79) rfl))) Via.refl e3 (S_D.ext O.2) (g := (mkF m 14 #[.val (.ref a), .val (.int p1), .val (.int (0 : Int32)), .unset] [(.ref dz)])) rfl (hb hby d_jdk_38_method_6_14)
  refine own_go (B := T4.setTop (mkF m 17 #[.val (.ref a), .val (.int p1), .val (.int (0 : Int32)), .unset] [(.ref dz), (.ref dz)])) st4 ?_
  refine own_go (B := T4.setTop (mkF m 49 #[.val (.ref a), .val (.int p1), .val (.int (0 : Int32)), .unset] [(.int p1), (.int (10 : Int32)), (.ref a)])) (fun t k => ?_) ?_
  · show Steps p.tables e below (T4.setTop (mkF m 17 #[.val (.ref a), .val (.int p1), .val (.int (0 : Int32)), .unset] [(.ref dz), (.ref dz)])) _
    refine Jvm.RoadKit.acmp (g := (mkF m 17 #[.val (.ref a), .val (.int p1), .val (.int (0 : Int32)), .unset] [(.ref dz), (.ref dz)])) X4 hx rfl rfl rfl (pc0 := 17) (pc' := 45) (same := true) rfl (hb hby d_jdk_38_method_6_17) rfl (decide_eq_true (congrArg Value.ref rfl)) (by decide) (by decide) ?_
    show Steps p.tables e below (T4.setTop (mkF m 45 #[.val (.ref a), .val (.int p1), .val (.int (0 : Int32)), .unset] [])) _
    refine XS.aloadN X4.here hx rfl (hb hby d_jdk_38_method_6_45) rfl rfl ?_
    show Steps p.tables e below (T4.setTop (mkF m 46 #[.val (.ref a), .val (.int p1), .val (.int (0 : Int32)), .unset] [(.ref a)])) _
    refine XS.bipush X4.here hx rfl (hb hby d_jdk_38_method_6_46) ?_
    show Steps p.tables e below (T4.setTop (mkF m 48 #[.val (.ref a), .val (.int p1), .val (.int (0 : Int32)), .unset] [(.int (10 : Int32)), (.ref a)])) _
    refine XS.iloadN X4.here hx rfl (hb hby d_jdk_38_method_6_48) rfl ?_
    show Steps p.tables e below (T4.setTop (mkF m 49 #[.val (.ref a), .val (.int p1), .val (.int (0 : Int32)), .unset] [(.int p1), (.int (10 : Int32)), (.ref a)])) _
    exact k
  -- pc 49: java/lang/Math.max
  obtain ⟨_, _, ⟨T5, L5, k5, n5⟩, -, X5, ⟨Lc5, hQ5, l5, y5, z5⟩, st5⟩ := Jvm.LawKit.callS X4 hx (y := (⟨"java/lang/Math", "max", "(II)I"⟩ : MethodName)) hown (mvT hZ (hw _ (own_g (i := 163) rfl))) (mvT hZ (hw _ (own_g (i := 164) rfl))) (mvT hZ (hw _ (own_g (i := 106) rfl))) (mvT hZ (hw _ (own_g (i := 165) rfl))) (by decide) (backOf (W := 1) (rmMax l Z a0 hw [] p1 h0 n0 O hq) hZ (hw _ (own_g (i := 165) rfl)) (hw _ (own_g (i := 106) rfl)) (by decide) (by decide)) (g := (mkF m 49 #[.val (.ref a), .val (.int p1), .val (.int (0 : Int32)), .unset] [(.int p1), (.int (10 : Int32)), (.ref a)])) rfl (by rw [hml]; rfl) (argsL := [(.int (10 : Int32)), (.int p1)]) (rest := [(.ref a)]) (lenOf pd_7 rfl) rfl (by show 2 * 0 + _ ≤ _; exact Nat.le_of_eq rfl) (hb hby d_jdk_38_method_6_49) (fun _ hWm => ⟨rfl, e4, (by decide : 0 + 0 ≤ _), (by decide : 0 + 0 ≤ _)⟩)
  dsimp only [Pt.U, Pt.locs, Pt.cells, Pt.slots] at X5 l5 y5 z5 st5 hQ5
  subst l5 y5 z5
  obtain ⟨rfl, Nq5, Kq5⟩ := hQ5
  replace N := Fr.app N Nq5
  refine own_go (B := T5.setTop (mkF m 52 #[.val (.ref a), .val (.int p1), .val (.int (0 : Int32)), .unset] [(.int (10 : Int32)), (.ref a)])) st5 ?_
  obtain ⟨T6, h6, k6, X6, e6, E6, A6, G6, O6, st6⟩ := newRE X5 hx hZ hown (hw _ (own_g (i := 166) rfl)) (hw _ (own_g (i := 167) rfl)) Kq5 (g := (mkF m 52 #[.val (.ref a), .val (.int p1), .val (.int (0 : Int32)), .unset] [(.int (10 : Int32)), (.ref a)])) rfl (hb hby d_jdk_38_method_6_52) rfl (by decide) (cap := 10) (by decide) (by decide) (by decide) (by decide) (ad := "[Ljava/lang/Object;") (by decide)
  obtain ⟨b6, g6⟩ : ∃ z, z = h0.size := ⟨_, rfl⟩
  rw [← g6] at A6 G6 st6
  have lt_a_b6 : a < b6 := Nat.lt_of_lt_of_le E.lt (Nat.le_of_eq g6.symm)
  have g_b6 : n0 ≤ b6 := Nat.le_trans (own_oldsz O) (Nat.le_of_eq g6.symm)
  have s_b6 : h0.size ≤ b6 := Nat.le_trans K.1 (Nat.le_of_eq g6.symm)
  replace E := E.ext E6
  replace F1 := F1.ext E6
  replace F2 := F2.ext E6
  replace F3 := F3.ext E6
  replace O := O.ext E6
  replace K := K.ext E6
  have V6 : Arv Z h6 b6 k6 (.object "java/lang/Object") (10 : Int32) [.null, .null, .null, .null, .null, .null, .null, .null, .null, .null] .null := (Arv.new A6 (by decide)).pad (pad_rep [] .null 10)
  refine own_go (B := T6.setTop (mkF m 55 #[.val (.ref a), .val (.int p1), .val (.int (0 : Int32)), .unset] [(.ref b6), (.ref a)])) st6 ?_
  refine own_go (B := T6.setTop (mkF m 56 #[.val (.ref a), .val (.int p1), .val (.int (0 : Int32)), .unset] [(.ref b6), (.ref a), (.ref b6)])) (fun t k => ?_) ?_
  · show Steps p.tables e below (T6.setTop (mkF m 55 #[.val (.ref a), .val (.int p1), .val (.int (0 : Int32)), .unset] [(.ref b6), (.ref a)])) _
    refine XS.dupX1 X6.here hx rfl (hb hby d_jdk_38_method_6_55) rfl rfl rfl ?_
    show Steps p.tables e below (T6.setTop (mkF m 56 #[.val (.ref a), .val (.int p1), .val (.int (0 : Int32)), .unset] [(.ref b6), (.ref a), (.ref b6)])) _
    exact k
  obtain ⟨T7, h7, X7, e7, W7, st7⟩ := putF X6 hx hZ hown (host := "") (Or.inl (hw _ (own_g (i := 80) rfl))) Via.refl e6 F2 E (Or.inl (hw _ (own_g (i := 81) rfl))) (hw _ (own_g (i := 59) rfl)) (ty := (.array (.object "java/lang/Object"))) (by decide) rfl rfl (g := (mkF m 56 #[.val (.ref a), .val (.int p1), .val (.int (0 : Int32)), .unset] [(.ref b6), (.ref a), (.ref b6)])) rfl rfl (hb hby d_jdk_38_method_6_56)
  have Fw7 := F2.same W7
  replace E := E.wr W7
  replace F1 := F1.other W7 (Or.inr (slot_ne (Or.inl (hw _ (own_g (i := 78) rfl))) (Or.inl (hw _ (own_g (i := 81) rfl))) (by decide) (t := .int) (t' := (.array (.object "java/lang/Object"))) (by decide) (by decide)))
  clear F2
  replace F3 := F3.other W7 (Or.inr (slot_ne (Or.inl (hw _ (own_g (i := 126) rfl))) (Or.inl (hw _ (own_g (i := 81) rfl))) (by decide) (t := .int) (t' := (.array (.object "java/lang/Object"))) (by decide) (by decide)))
  replace G6 := G6.wr W7
  replace V6 := V6.other W7 (Nat.ne_of_gt lt_a_b6)
  replace O := O.wr W7 ga
  replace K := K.wr W7 (Or.inl (own_g (i := 0) rfl))
  replace N := Fr.snoc X7 N ga
  refine own_go (B := T7.setTop (mkF m 59 #[.val (.ref a), .val (.int p1), .val (.int (0 : Int32)), .unset] [(.ref b6)])) st7 ?_
  obtain ⟨fs, hr, hrun, hended, hW, hsame⟩ := X7.leave (v := some (.ref b6)) (fun h => by rw [Bd.returns] at h; cases h)
  refine ⟨_, _, own_retA X7 hx rfl Bd.returns rfl (hb hby d_jdk_38_method_6_59) hr, hfin _ _ ⟨hrun, hended, _, _, rfl, ?_, ⟨_, rfl⟩, hW, hsame.mono (by decide) (by decide)⟩⟩
  show QGrI Z a p1 mc dz kz h0 n0 _ T7.heap _
  rw [e7]
  exact ⟨b6, k6, rfl, N, K, s_b6, F1, Fw7, F3, V6, O6⟩
def QGr (Z : State) (a : Addr) (mc : Int32) (dz : Addr) (kz : ClassId) (h0 : Heap) (n0 : Nat) (v : Option Value) (h : Heap) (L : List Loc) : Prop := ∃ da : Addr, ∃ kda : ClassId, v = some (.ref da) ∧ Fr n0 L ∧ Keep h0 h [a] ∧ h0.size ≤ da ∧ Fld Z h a "java/util/AbstractList" "modCount" "I" (.int mc) ∧ Fld Z h a "java/util/ArrayList" "elementData" "[Ljava/lang/Object;" (.ref da) ∧ Fld Z h a "java/util/ArrayList" "size" "I" (.int (0 : Int32)) ∧ Arv Z h da kda (.object "java/lang/Object") (10 : Int32) [.null, .null, .null, .null, .null, .null, .null, .null, .null, .null] .null ∧ (Ovr Z kda "java/lang/Object")
theorem ef_Gr (m : MethodId) (a : Addr) : entryFrame m #[(.ref a)] 1 = mkF m 0 #[.val (.ref a)] [] := by first | (simp [entryFrame, mkF, argsToLocals, Value.category]; done) | rfl | (rfl)
set_option maxRecDepth 65536 in
set_option maxHeartbeats 40000000 in
theorem rmGr (l : Launch) (Z : State) (a0 : Array Value) (hw : ∀ d ∈ tables_1, d.before a0 Z = true) (ws : List Jvm.Cond) (a : Addr) (mc : Int32) (dz : Addr) (kz : ClassId) (h0 : Heap) (n0 : Nat) (O : Old Z n0 h0) (E : Exa Z h0 a "java/util/ArrayList") (F1 : Fld Z h0 a "java/util/AbstractList" "modCount" "I" (.int mc)) (F2 : Fld Z h0 a "java/util/ArrayList" "elementData" "[Ljava/lang/Object;" (.ref dz)) (F3 : Fld Z h0 a "java/util/ArrayList" "size" "I" (.int (0 : Int32))) (ga : n0 ≤ a) (S_D : Sta Z Z.heap "java/util/ArrayList" "DEFAULTCAPACITY_EMPTY_ELEMENTDATA" "[Ljava/lang/Object;" (.ref dz)) (V_Z : Arv Z Z.heap dz kz (.object "java/lang/Object") (0 : Int32) [] .null) :
    MetFree l (⟨"java/util/ArrayList", "grow", "()[Ljava/lang/Object;"⟩ : MethodName) (head1 (Jvm.Cond.code (⟨"java/util/ArrayList", "grow", "()[Ljava/lang/Object;"⟩ : MethodName) jdk_38_method_7_code 1 (some (.array (.object "java/lang/Object"))) :: ws) ({ frames := 2, cells := 1, slots := 10, locals := 29 } : Room)) (fun as_ U => as_ = #[(.ref a)] ∧ Z.Warmed39 U.vm ∧ U.heap = h0) (fun _ _ _ _ _ => True) (fun _ U oo_ U' => ∃ vv_ LL_, oo_ = .returned vv_ ∧ QGr Z a mc dz kz h0 n0 vv_ U'.heap LL_ ∧ FrameEnd U oo_ U' LL_ ({ frames := 2, cells := 1, slots := 10, locals := 29 } : Room).cells ({ frames := 2, cells := 1, slots := 10, locals := 29 } : Room).slots) := by
  refine MetFree.of_bodySF (plainFor_of_name pn_7) hisR ?_
  intro p e s m args below meth c s₁ Bd hml0 hP hK
  obtain ⟨rfl, hZ, hh⟩ := hP
  have hx := Bd.exec
  have hby := Bd.bytes
  have hml : c.maxLocals = 1 := hml0
  have hown : s.vm.findClass "java/util/ArrayList" = some m.cls := findClass_of_methodNamed Bd.named
  have hnm := (name_of_methodNamed Bd.named Bd.method).1
  have X0 : Stand p l e ({ frames := 2, cells := 1, slots := 10, locals := 29 } : Room) s m #[(.ref a)] below meth c s₁ [] 0 0 := Stand.of_body Bd
  have e0 : s₁.heap = h0 := by rw [← hh, Bd.state]; rfl
  have N := Fr.nil n0
  have K : Keep h0 h0 [a] := Keep.refl h0 _
  refine own_go (B := s₁.setTop (mkF m 0 #[.val (.ref a)] [])) (fun t k => castTop (ef_Gr m a) k) ?_
  refine own_abs (fun P hfin => ?_)
  refine own_go (B := s₁.setTop (mkF m 2 #[.val (.ref a)] [(.ref a), (.ref a)])) (fun t k => ?_) ?_
  · show Steps p.tables e below (s₁.setTop (mkF m 0 #[.val (.ref a)] [])) _
    refine XS.aloadN X0.here hx rfl (hb hby d_jdk_38_method_7_0) rfl rfl ?_
    show Steps p.tables e below (s₁.setTop (mkF m 1 #[.val (.ref a)] [(.ref a)])) _
    refine XS.aloadN X0.here hx rfl (hb hby d_jdk_38_method_7_1) rfl rfl ?_
    show Steps p.tables e below (s₁.setTop (mkF m 2 #[.val (.ref a)] [(.ref a), (.ref a)])) _
    exact k
  obtain ⟨T1, X1, e1, st1⟩ := getF X0 hx hZ hown (host := "") (Or.inl (hw _ (own_g (i := 125) rfl))) Via.refl e0 F3 (g := (mkF m 2 #[.val (.ref a)] [(.ref a), (.ref a)])) rfl rfl (hb hby d_jdk_38_method_7_2)
  refine own_go (B := T1.setTop (mkF m 5 #[.val (.ref a)] [(.int (0 : Int32)), (.ref a)])) st1 ?_
  refine own_go (B := T1.setTop (mkF m 7 #[.val (.ref a)] [(.int ((0 : Int32) + (1 : Int32))), (.ref a)])) (fun t k => ?_) ?_
  · show Steps p.tables e below (T1.setTop (mkF m 5 #[.val (.ref a)] [(.int (0 : Int32)), (.ref a)])) _
    refine XS.iconst X1.here hx rfl (hb hby d_jdk_38_method_7_5) ?_
    show Steps p.tables e below (T1.setTop (mkF m 6 #[.val (.ref a)] [(.int (1 : Int32)), (.int (0 : Int32)), (.ref a)])) _
    refine XS.iadd X1.here hx rfl (hb hby d_jdk_38_method_7_6) rfl ?_
    show Steps p.tables e below (T1.setTop (mkF m 7 #[.val (.ref a)] [(.int ((0 : Int32) + (1 : Int32))), (.ref a)])) _
    exact k
  -- pc 7: java/util/ArrayList.grow
  obtain ⟨cq2, q2, q2'⟩ := E.cell
  obtain ⟨_, _, ⟨T2, L2, k2, n2⟩, -, X2, ⟨Lc2, hQ2, l2, y2, z2⟩, st2⟩ := X1.privateBack hx (y := (⟨"java/util/ArrayList", "grow", "(I)[Ljava/lang/Object;"⟩ : MethodName)) hown (mvT hZ (hw _ (own_g (i := 158) rfl))) (mvT hZ (hw _ (own_g (i := 159) rfl))) (mvT hZ (hw _ (own_g (i := 161) rfl))) (Cond.privateMethod_at (mvP hZ (hw _ (own_g (i := 160) rfl)) (args := #[]))) (mvT hZ (hw _ (own_g (i := 162) rfl))) (by decide) (backOf (W := 0) (rmGrI l Z a0 hw [] a ((0 : Int32) + (1 : Int32)) mc dz kz h0 n0 O E F1 F2 F3 ga S_D V_Z (by decide)) hZ (hw _ (own_g (i := 162) rfl)) (hw _ (own_g (i := 60) rfl)) (by decide) (by decide)) (g := (mkF m 7 #[.val (.ref a)] [(.int ((0 : Int32) + (1 : Int32))), (.ref a)])) rfl (by rw [hml]; rfl) (Steps.refl _) (a := a) (by rw [e1]; exact q2) q2' (argsL := [(.int ((0 : Int32) + (1 : Int32)))]) (rest := []) (lenOf pd_8 rfl) rfl (by show 2 * 0 + _ ≤ _; exact Nat.le_of_eq rfl) (hb hby d_jdk_38_method_7_7) (fun _ hWm => ⟨rfl, e1, (by decide : 0 + 1 ≤ _), (by decide : 0 + 10 ≤ _)⟩)
  dsimp only [Pt.U, Pt.locs, Pt.cells, Pt.slots] at X2 l2 y2 z2 st2 hQ2
  subst l2 y2 z2
  obtain ⟨da2, kda2, rfl, Nq2, Kq2, fq2_da, Gq2_0, Gq2_1, Gq2_2, Gq2_3, cq2_0⟩ := hQ2
  replace N := Fr.app N Nq2
  have lt_a_da2 : a < da2 := Nat.lt_of_lt_of_le E.lt fq2_da
  have g_da2 : n0 ≤ da2 := Nat.le_trans (own_oldsz O) fq2_da
  have s_da2 : h0.size ≤ da2 := Nat.le_trans K.1 fq2_da
  replace E := E.keep Kq2
  clear F1
  clear F2
  clear F3
  replace O := O.keep Kq2 (allS ga all0)
  replace K := K.trans Kq2 (allS (Or.inl (own_g (i := 0) rfl)) all0)
  refine own_go (B := T2.setTop (mkF m 10 #[.val (.ref a)] [(.ref da2)])) (fun t k => st2.trans k) ?_
  obtain ⟨fs, hr, hrun, hended, hW, hsame⟩ := X2.leave (v := some (.ref da2)) (fun h => by rw [Bd.returns] at h; cases h)
  refine ⟨_, _, own_retA X2 hx rfl Bd.returns rfl (hb hby d_jdk_38_method_7_10) hr, hfin _ _ ⟨hrun, hended, _, _, rfl, ?_, ⟨_, rfl⟩, hW, hsame.mono (by decide) (by decide)⟩⟩
  show QGr Z a mc dz kz h0 n0 _ T2.heap _
  exact ⟨da2, kda2, rfl, N, K, s_da2, Gq2_0, Gq2_1, Gq2_2, Gq2_3, cq2_0⟩
def QA30 (Z : State) (a : Addr) (t0 : Addr) (mc : Int32) (dz : Addr) (kz : ClassId) (h0 : Heap) (n0 : Nat) (v : Option Value) (h : Heap) (L : List Loc) : Prop := ∃ da : Addr, ∃ kda : ClassId, v = none ∧ Fr n0 L ∧ Keep h0 h [a] ∧ h0.size ≤ da ∧ Fld Z h a "java/util/AbstractList" "modCount" "I" (.int mc) ∧ Fld Z h a "java/util/ArrayList" "elementData" "[Ljava/lang/Object;" (.ref da) ∧ Fld Z h a "java/util/ArrayList" "size" "I" (.int (1 : Int32)) ∧ Arv Z h da kda (.object "java/lang/Object") (10 : Int32) [(.ref t0), .null, .null, .null, .null, .null, .null, .null, .null, .null] .null ∧ (Ovr Z kda "java/lang/Object")
theorem ef_A30 (m : MethodId) (a : Addr) (t0 : Addr) (dz : Addr) : entryFrame m #[(.ref a), (.ref t0), (.ref dz), (.int (0 : Int32))] 4 = mkF m 0 #[.val (.ref a), .val (.ref t0), .val (.ref dz), .val (.int (0 : Int32))] [] := by first | (simp [entryFrame, mkF, argsToLocals, Value.category]; done) | rfl | (rfl)
set_option maxRecDepth 65536 in
set_option maxHeartbeats 40000000 in
theorem rmA30 (l : Launch) (Z : State) (a0 : Array Value) (hw : ∀ d ∈ tables_1, d.before a0 Z = true) (ws : List Jvm.Cond) (a : Addr) (t0 : Addr) (mc : Int32) (dz : Addr) (kz : ClassId) (h0 : Heap) (n0 : Nat) (O : Old Z n0 h0) (E : Exa Z h0 a "java/util/ArrayList") (F1 : Fld Z h0 a "java/util/AbstractList" "modCount" "I" (.int mc)) (F2 : Fld Z h0 a "java/util/ArrayList" "elementData" "[Ljava/lang/Object;" (.ref dz)) (F3 : Fld Z h0 a "java/util/ArrayList" "size" "I" (.int (0 : Int32))) (ga : n0 ≤ a) (S_D : Sta Z Z.heap "java/util/ArrayList" "DEFAULTCAPACITY_EMPTY_ELEMENTDATA" "[Ljava/lang/Object;" (.ref dz)) (V_Z : Arv Z Z.heap dz kz (.object "java/lang/Object") (0 : Int32) [] .null) (E_t0 : Exa Z h0 t0 "com/example/nasute/nasute/sql/Token") :
    MetFree l (⟨"java/util/ArrayList", "add", "(Ljava/lang/Object;[Ljava/lang/Object;I)V"⟩ : MethodName) (head1 (Jvm.Cond.code (⟨"java/util/ArrayList", "add", "(Ljava/lang/Object;[Ljava/lang/Object;I)V"⟩ : MethodName) jdk_38_method_24_code 4 none :: ws) ({ frames := 3, cells := 1, slots := 10, locals := 41 } : Room)) (fun as_ U => as_ = #[(.ref a), (.ref t0), (.ref dz), (.int (0 : Int32))] ∧ Z.Warmed39 U.vm ∧ U.heap = h0) (fun _ _ _ _ _ => True) (fun _ U oo_ U' => ∃ vv_ LL_, oo_ = .returned vv_ ∧ QA30 Z a t0 mc dz kz h0 n0 vv_ U'.heap LL_ ∧ FrameEnd U oo_ U' LL_ ({ frames := 3, cells := 1, slots := 10, locals := 41 } : Room).cells ({ frames := 3, cells := 1, slots := 10, locals := 41 } : Room).slots) := by
  refine MetFree.of_bodySF (plainFor_of_name pn_7) hisR ?_
  intro p e s m args below meth c s₁ Bd hml0 hP hK
  obtain ⟨rfl, hZ, hh⟩ := hP
  have hx := Bd.exec
  have hby := Bd.bytes
  have hml : c.maxLocals = 4 := hml0
  have hown : s.vm.findClass "java/util/ArrayList" = some m.cls := findClass_of_methodNamed Bd.named
  have hnm := (name_of_methodNamed Bd.named Bd.method).1
  have X0 : Stand p l e ({ frames := 3, cells := 1, slots := 10, locals := 41 } : Room) s m #[(.ref a), (.ref t0), (.ref dz), (.int (0 : Int32))] below meth c s₁ [] 0 0 := Stand.of_body Bd
  have e0 : s₁.heap = h0 := by rw [← hh, Bd.state]; rfl
  have N := Fr.nil n0
  have K : Keep h0 h0 [a] := Keep.refl h0 _
  refine own_go (B := s₁.setTop (mkF m 0 #[.val (.ref a), .val (.ref t0), .val (.ref dz), .val (.int (0 : Int32))] [])) (fun t k => castTop (ef_A30 m a t0 dz) k) ?_
  refine own_abs (fun P hfin => ?_)
  refine own_go (B := s₁.setTop (mkF m 2 #[.val (.ref a), .val (.ref t0), .val (.ref dz), .val (.int (0 : Int32))] [(.ref dz), (.int (0 : Int32))])) (fun t k => ?_) ?_
  · show Steps p.tables e below (s₁.setTop (mkF m 0 #[.val (.ref a), .val (.ref t0), .val (.ref dz), .val (.int (0 : Int32))] [])) _
    refine XS.iloadN X0.here hx rfl (hb hby d_jdk_38_method_24_0) rfl ?_
    show Steps p.tables e below (s₁.setTop (mkF m 1 #[.val (.ref a), .val (.ref t0), .val (.ref dz), .val (.int (0 : Int32))] [(.int (0 : Int32))])) _
    refine XS.aloadN X0.here hx rfl (hb hby d_jdk_38_method_24_1) rfl rfl ?_
    show Steps p.tables e below (s₁.setTop (mkF m 2 #[.val (.ref a), .val (.ref t0), .val (.ref dz), .val (.int (0 : Int32))] [(.ref dz), (.int (0 : Int32))])) _
    exact k
  have st1 : ∀ target, Steps p.tables e below (s₁.setTop (mkF m 3 #[.val (.ref a), .val (.ref t0), .val (.ref dz), .val (.int (0 : Int32))] [(.int (0 : Int32)), (.int (0 : Int32))])) target → Steps p.tables e below (s₁.setTop (mkF m 2 #[.val (.ref a), .val (.ref t0), .val (.ref dz), .val (.int (0 : Int32))] [(.ref dz), (.int (0 : Int32))])) target := by
    obtain ⟨cl, Ar, q, Sz, Nn, Hs, Gt⟩ := (V_Z.ext O.2)
    intro target kt
    refine X0.arraylength hx (by rw [e0]; exact Ar.1) (State.isArrayOf_alike hZ.alike Ar.2.1) (g := (mkF m 2 #[.val (.ref a), .val (.ref t0), .val (.ref dz), .val (.int (0 : Int32))] [(.ref dz), (.int (0 : Int32))])) rfl rfl (hb hby d_jdk_38_method_24_2) _ ?_
    rw [len_of Sz Nn]
    exact kt
  refine own_go (B := s₁.setTop (mkF m 3 #[.val (.ref a), .val (.ref t0), .val (.ref dz), .val (.int (0 : Int32))] [(.int (0 : Int32)), (.int (0 : Int32))])) st1 ?_
  refine own_go (B := s₁.setTop (mkF m 7 #[.val (.ref a), .val (.ref t0), .val (.ref dz), .val (.int (0 : Int32))] [(.ref a)])) (fun t k => ?_) ?_
  · show Steps p.tables e below (s₁.setTop (mkF m 3 #[.val (.ref a), .val (.ref t0), .val (.ref dz), .val (.int (0 : Int32))] [(.int (0 : Int32)), (.int (0 : Int32))])) _
    refine XS.icmpNo X0.here hx rfl (hb hby d_jdk_38_method_24_3) rfl (teq rfl).2 ?_
    show Steps p.tables e below (s₁.setTop (mkF m 6 #[.val (.ref a), .val (.ref t0), .val (.ref dz), .val (.int (0 : Int32))] [])) _
    refine XS.aloadN X0.here hx rfl (hb hby d_jdk_38_method_24_6) rfl rfl ?_
    show Steps p.tables e below (s₁.setTop (mkF m 7 #[.val (.ref a), .val (.ref t0), .val (.ref dz), .val (.int (0 : Int32))] [(.ref a)])) _
    exact k
  -- pc 7: java/util/ArrayList.grow
  obtain ⟨cq2, q2, q2'⟩ := E.cell
  obtain ⟨_, _, ⟨T2, L2, k2, n2⟩, -, X2, ⟨Lc2, hQ2, l2, y2, z2⟩, st2⟩ := X0.privateBack hx (y := (⟨"java/util/ArrayList", "grow", "()[Ljava/lang/Object;"⟩ : MethodName)) hown (mvT hZ (hw _ (own_g (i := 153) rfl))) (mvT hZ (hw _ (own_g (i := 154) rfl))) (mvT hZ (hw _ (own_g (i := 156) rfl))) (Cond.privateMethod_at (mvP hZ (hw _ (own_g (i := 155) rfl)) (args := #[]))) (mvT hZ (hw _ (own_g (i := 157) rfl))) (by decide) (backOf (W := 0) (rmGr l Z a0 hw [] a mc dz kz h0 n0 O E F1 F2 F3 ga S_D V_Z) hZ (hw _ (own_g (i := 157) rfl)) (hw _ (own_g (i := 60) rfl)) (by decide) (by decide)) (g := (mkF m 7 #[.val (.ref a), .val (.ref t0), .val (.ref dz), .val (.int (0 : Int32))] [(.ref a)])) rfl (by rw [hml]; rfl) (Steps.refl _) (a := a) (by rw [e0]; exact q2) q2' (argsL := []) (rest := []) (lenOf pd_9 rfl) rfl (by show 2 * 0 + _ ≤ _; exact Nat.le_of_eq rfl) (hb hby d_jdk_38_method_24_7) (fun _ hWm => ⟨rfl, e0, (by decide : 0 + 1 ≤ _), (by decide : 0 + 10 ≤ _)⟩)
  dsimp only [Pt.U, Pt.locs, Pt.cells, Pt.slots] at X2 l2 y2 z2 st2 hQ2
  subst l2 y2 z2
  obtain ⟨da2, kda2, rfl, Nq2, Kq2, fq2_da, Gq2_0, Gq2_1, Gq2_2, Gq2_3, cq2_0⟩ := hQ2
  replace N := Fr.app N Nq2
  have lt_a_da2 : a < da2 := Nat.lt_of_lt_of_le E.lt fq2_da
  have lt_t0_da2 : t0 < da2 := Nat.lt_of_lt_of_le E_t0.lt fq2_da
  have g_da2 : n0 ≤ da2 := Nat.le_trans (own_oldsz O) fq2_da
  have s_da2 : h0.size ≤ da2 := Nat.le_trans K.1 fq2_da
  replace E := E.keep Kq2
  clear F1
  clear F2
  clear F3
  replace E_t0 := E_t0.keep Kq2
  replace O := O.keep Kq2 (allS ga all0)
  replace K := K.trans Kq2 (allS (Or.inl (own_g (i := 0) rfl)) all0)
  refine own_go (B := T2.setTop (mkF m 10 #[.val (.ref a), .val (.ref t0), .val (.ref dz), .val (.int (0 : Int32))] [(.ref da2)])) (fun t k => st2.trans k) ?_
  refine own_go (B := T2.setTop (mkF m 14 #[.val (.ref a), .val (.ref t0), .val (.ref da2), .val (.int (0 : Int32))] [(.ref t0), (.int (0 : Int32)), (.ref da2)])) (fun t k => ?_) ?_
  · show Steps p.tables e below (T2.setTop (mkF m 10 #[.val (.ref a), .val (.ref t0), .val (.ref dz), .val (.int (0 : Int32))] [(.ref da2)])) _
    refine XS.astoreN X2.here hx rfl (hb hby d_jdk_38_method_24_10) rfl rfl (l' := #[.val (.ref a), .val (.ref t0), .val (.ref da2), .val (.int (0 : Int32))]) rfl ?_
    show Steps p.tables e below (T2.setTop (mkF m 11 #[.val (.ref a), .val (.ref t0), .val (.ref da2), .val (.int (0 : Int32))] [])) _
    refine XS.aloadN X2.here hx rfl (hb hby d_jdk_38_method_24_11) rfl rfl ?_
    show Steps p.tables e below (T2.setTop (mkF m 12 #[.val (.ref a), .val (.ref t0), .val (.ref da2), .val (.int (0 : Int32))] [(.ref da2)])) _
    refine XS.iloadN X2.here hx rfl (hb hby d_jdk_38_method_24_12) rfl ?_
    show Steps p.tables e below (T2.setTop (mkF m 13 #[.val (.ref a), .val (.ref t0), .val (.ref da2), .val (.int (0 : Int32))] [(.int (0 : Int32)), (.ref da2)])) _
    refine XS.aloadN X2.here hx rfl (hb hby d_jdk_38_method_24_13) rfl rfl ?_
    show Steps p.tables e below (T2.setTop (mkF m 14 #[.val (.ref a), .val (.ref t0), .val (.ref da2), .val (.int (0 : Int32))] [(.ref t0), (.int (0 : Int32)), (.ref da2)])) _
    exact k
  obtain ⟨cl3, Ar3, q3, Sz3, Nn3, Hs3, Gt3⟩ := Gq2_3
  have hin3 : ¬ ((0 : Int32) < 0 ∨ cl3.slots.size ≤ ((0 : Int32)).toNatClampNeg) := inb_of Sz3 ⟨by decide, by decide⟩
  obtain ⟨T3, h3, X3, e3, W3, st3⟩ := stR X2 hx hZ rfl Ar3 (j := (0 : Int32)) hin3 rfl (Sto.ofV Ar3 q3 cq2_0 (Ins.of_exa E_t0 (hw _ (own_g (i := 168) rfl)))) (g := (mkF m 14 #[.val (.ref a), .val (.ref t0), .val (.ref da2), .val (.int (0 : Int32))] [(.ref t0), (.int (0 : Int32)), (.ref da2)])) rfl rfl (hb hby d_jdk_38_method_24_14)
  have V3 : Arv Z h3 da2 kda2 (.object "java/lang/Object") (10 : Int32) [(.ref t0), .null, .null, .null, .null, .null, .null, .null, .null, .null] .null := Arv.set Ar3 q3 Sz3 Nn3 Hs3 Gt3 rfl W3 0 rfl (Nat.le_of_ble_eq_true rfl)
  replace E := E.wr W3
  replace E_t0 := E_t0.wr W3
  replace Gq2_0 := Gq2_0.other W3 (Or.inl (Nat.ne_of_lt lt_a_da2))
  replace Gq2_1 := Gq2_1.other W3 (Or.inl (Nat.ne_of_lt lt_a_da2))
  replace Gq2_2 := Gq2_2.other W3 (Or.inl (Nat.ne_of_lt lt_a_da2))
  replace O := O.wr W3 g_da2
  replace K := K.wr W3 (Or.inr s_da2)
  replace N := Fr.snoc X3 N g_da2
  refine own_go (B := T3.setTop (mkF m 15 #[.val (.ref a), .val (.ref t0), .val (.ref da2), .val (.int (0 : Int32))] [])) st3 ?_
  refine own_go (B := T3.setTop (mkF m 19 #[.val (.ref a), .val (.ref t0), .val (.ref da2), .val (.int (0 : Int32))] [(.int ((0 : Int32) + (1 : Int32))), (.ref a)])) (fun t k => ?_) ?_
  · show Steps p.tables e below (T3.setTop (mkF m 15 #[.val (.ref a), .val (.ref t0), .val (.ref da2), .val (.int (0 : Int32))] [])) _
    refine XS.aloadN X3.here hx rfl (hb hby d_jdk_38_method_24_15) rfl rfl ?_
    show Steps p.tables e below (T3.setTop (mkF m 16 #[.val (.ref a), .val (.ref t0), .val (.ref da2), .val (.int (0 : Int32))] [(.ref a)])) _
    refine XS.iloadN X3.here hx rfl (hb hby d_jdk_38_method_24_16) rfl ?_
    show Steps p.tables e below (T3.setTop (mkF m 17 #[.val (.ref a), .val (.ref t0), .val (.ref da2), .val (.int (0 : Int32))] [(.int (0 : Int32)), (.ref a)])) _
    refine XS.iconst X3.here hx rfl (hb hby d_jdk_38_method_24_17) ?_
    show Steps p.tables e below (T3.setTop (mkF m 18 #[.val (.ref a), .val (.ref t0), .val (.ref da2), .val (.int (0 : Int32))] [(.int (1 : Int32)), (.int (0 : Int32)), (.ref a)])) _
    refine XS.iadd X3.here hx rfl (hb hby d_jdk_38_method_24_18) rfl ?_
    show Steps p.tables e below (T3.setTop (mkF m 19 #[.val (.ref a), .val (.ref t0), .val (.ref da2), .val (.int (0 : Int32))] [(.int ((0 : Int32) + (1 : Int32))), (.ref a)])) _
    exact k
  rw [(show ((0 : Int32) + (1 : Int32)) = (1 : Int32) from by decide)]
  obtain ⟨T4, h4, X4, e4, W4, st4⟩ := putF X3 hx hZ hown (host := "") (Or.inl (hw _ (own_g (i := 125) rfl))) Via.refl e3 Gq2_2 E (Or.inl (hw _ (own_g (i := 126) rfl))) (hw _ (own_g (i := 59) rfl)) (ty := .int) (by decide) rfl rfl (g := (mkF m 19 #[.val (.ref a), .val (.ref t0), .val (.ref da2), .val (.int (0 : Int32))] [(.int (1 : Int32)), (.ref a)])) rfl rfl (hb hby d_jdk_38_method_24_19)
  have Fw4 := Gq2_2.same W4
  replace E := E.wr W4
  replace E_t0 := E_t0.wr W4
  replace Gq2_0 := Gq2_0.other W4 (Or.inr (slot_ne (Or.inl (hw _ (own_g (i := 78) rfl))) (Or.inl (hw _ (own_g (i := 126) rfl))) (by decide) (t := .int) (t' := .int) (by decide) (by decide)))
  replace Gq2_1 := Gq2_1.other W4 (Or.inr (slot_ne (Or.inl (hw _ (own_g (i := 81) rfl))) (Or.inl (hw _ (own_g (i := 126) rfl))) (by decide) (t := (.array (.object "java/lang/Object"))) (t' := .int) (by decide) (by decide)))
  clear Gq2_2
  replace V3 := V3.other W4 (Nat.ne_of_gt lt_a_da2)
  replace O := O.wr W4 ga
  replace K := K.wr W4 (Or.inl (own_g (i := 0) rfl))
  replace N := Fr.snoc X4 N ga
  refine own_go (B := T4.setTop (mkF m 22 #[.val (.ref a), .val (.ref t0), .val (.ref da2), .val (.int (0 : Int32))] [])) st4 ?_
  obtain ⟨fs, hr, hrun, hended, hW, hsame⟩ := X4.leave (v := none) (fun _ => rfl)
  refine ⟨_, _, X4.returnOut hx Bd.returns (hb hby d_jdk_38_method_24_22) hr, hfin _ _ ⟨hrun, hended, _, _, rfl, ?_, ⟨_, rfl⟩, hW, hsame.mono (by decide) (by decide)⟩⟩
  show QA30 Z a t0 mc dz kz h0 n0 _ T4.heap _
  rw [e4]
  exact ⟨da2, kda2, rfl, N, K, s_da2, Gq2_0, Gq2_1, Fw4, V3, cq2_0⟩
def QA31 (Z : State) (a : Addr) (t1 : Addr) (mc : Int32) (da : Addr) (kda : ClassId) (t0 : Addr) (h0 : Heap) (n0 : Nat) (v : Option Value) (h : Heap) (L : List Loc) : Prop := v = none ∧ Fr n0 L ∧ Keep h0 h [a, da] ∧ Fld Z h a "java/util/AbstractList" "modCount" "I" (.int mc) ∧ Fld Z h a "java/util/ArrayList" "elementData" "[Ljava/lang/Object;" (.ref da) ∧ Fld Z h a "java/util/ArrayList" "size" "I" (.int (2 : Int32)) ∧ Arv Z h da kda (.object "java/lang/Object") (10 : Int32) [(.ref t0), (.ref t1), .null, .null, .null, .null, .null, .null, .null, .null] .null
theorem ef_A31 (m : MethodId) (a : Addr) (t1 : Addr) (da : Addr) : entryFrame m #[(.ref a), (.ref t1), (.ref da), (.int (1 : Int32))] 4 = mkF m 0 #[.val (.ref a), .val (.ref t1), .val (.ref da), .val (.int (1 : Int32))] [] := by first | (simp [entryFrame, mkF, argsToLocals, Value.category]; done) | rfl | (rfl)
set_option maxRecDepth 65536 in
set_option maxHeartbeats 40000000 in
theorem rmA31 (l : Launch) (Z : State) (a0 : Array Value) (hw : ∀ d ∈ tables_1, d.before a0 Z = true) (ws : List Jvm.Cond) (a : Addr) (t1 : Addr) (mc : Int32) (da : Addr) (kda : ClassId) (t0 : Addr) (h0 : Heap) (n0 : Nat) (O : Old Z n0 h0) (E : Exa Z h0 a "java/util/ArrayList") (F1 : Fld Z h0 a "java/util/AbstractList" "modCount" "I" (.int mc)) (F2 : Fld Z h0 a "java/util/ArrayList" "elementData" "[Ljava/lang/Object;" (.ref da)) (F3 : Fld Z h0 a "java/util/ArrayList" "size" "I" (.int (1 : Int32))) (ga : n0 ≤ a) (V1 : Arv Z h0 da kda (.object "java/lang/Object") (10 : Int32) [(.ref t0), .null, .null, .null, .null, .null, .null, .null, .null, .null] .null) (gd : n0 ≤ da) (nad : a ≠ da) (E_t1 : Exa Z h0 t1 "com/example/nasute/nasute/sql/Token") (ov : Ovr Z kda "java/lang/Object") :
    MetFree l (⟨"java/util/ArrayList", "add", "(Ljava/lang/Object;[Ljava/lang/Object;I)V"⟩ : MethodName) (head1 (Jvm.Cond.code (⟨"java/util/ArrayList", "add", "(Ljava/lang/Object;[Ljava/lang/Object;I)V"⟩ : MethodName) jdk_38_method_24_code 4 none :: ws) ({ frames := 0, cells := 0, slots := 0, locals := 0 } : Room)) (fun as_ U => as_ = #[(.ref a), (.ref t1), (.ref da), (.int (1 : Int32))] ∧ Z.Warmed39 U.vm ∧ U.heap = h0) (fun _ _ _ _ _ => True) (fun _ U oo_ U' => ∃ vv_ LL_, oo_ = .returned vv_ ∧ QA31 Z a t1 mc da kda t0 h0 n0 vv_ U'.heap LL_ ∧ FrameEnd U oo_ U' LL_ ({ frames := 0, cells := 0, slots := 0, locals := 0 } : Room).cells ({ frames := 0, cells := 0, slots := 0, locals := 0 } : Room).slots) := by
  refine MetFree.of_bodySF (plainFor_of_name pn_7) hisR ?_
  intro p e s m args below meth c s₁ Bd hml0 hP hK
  obtain ⟨rfl, hZ, hh⟩ := hP
  have hx := Bd.exec
  have hby := Bd.bytes
  have hml : c.maxLocals = 4 := hml0
  have hown : s.vm.findClass "java/util/ArrayList" = some m.cls := findClass_of_methodNamed Bd.named
  have hnm := (name_of_methodNamed Bd.named Bd.method).1
  have X0 : Stand p l e ({ frames := 0, cells := 0, slots := 0, locals := 0 } : Room) s m #[(.ref a), (.ref t1), (.ref da), (.int (1 : Int32))] below meth c s₁ [] 0 0 := Stand.of_body Bd
  have e0 : s₁.heap = h0 := by rw [← hh, Bd.state]; rfl
  have N := Fr.nil n0
  have K : Keep h0 h0 [a, da] := Keep.refl h0 _
  refine own_go (B := s₁.setTop (mkF m 0 #[.val (.ref a), .val (.ref t1), .val (.ref da), .val (.int (1 : Int32))] [])) (fun t k => castTop (ef_A31 m a t1 da) k) ?_
  refine own_abs (fun P hfin => ?_)
  refine own_go (B := s₁.setTop (mkF m 2 #[.val (.ref a), .val (.ref t1), .val (.ref da), .val (.int (1 : Int32))] [(.ref da), (.int (1 : Int32))])) (fun t k => ?_) ?_
  · show Steps p.tables e below (s₁.setTop (mkF m 0 #[.val (.ref a), .val (.ref t1), .val (.ref da), .val (.int (1 : Int32))] [])) _
    refine XS.iloadN X0.here hx rfl (hb hby d_jdk_38_method_24_0) rfl ?_
    show Steps p.tables e below (s₁.setTop (mkF m 1 #[.val (.ref a), .val (.ref t1), .val (.ref da), .val (.int (1 : Int32))] [(.int (1 : Int32))])) _
    refine XS.aloadN X0.here hx rfl (hb hby d_jdk_38_method_24_1) rfl rfl ?_
    show Steps p.tables e below (s₁.setTop (mkF m 2 #[.val (.ref a), .val (.ref t1), .val (.ref da), .val (.int (1 : Int32))] [(.ref da), (.int (1 : Int32))])) _
    exact k
  have st1 : ∀ target, Steps p.tables e below (s₁.setTop (mkF m 3 #[.val (.ref a), .val (.ref t1), .val (.ref da), .val (.int (1 : Int32))] [(.int (10 : Int32)), (.int (1 : Int32))])) target → Steps p.tables e below (s₁.setTop (mkF m 2 #[.val (.ref a), .val (.ref t1), .val (.ref da), .val (.int (1 : Int32))] [(.ref da), (.int (1 : Int32))])) target := by
    obtain ⟨cl, Ar, q, Sz, Nn, Hs, Gt⟩ := V1
    intro target kt
    refine X0.arraylength hx (by rw [e0]; exact Ar.1) (State.isArrayOf_alike hZ.alike Ar.2.1) (g := (mkF m 2 #[.val (.ref a), .val (.ref t1), .val (.ref da), .val (.int (1 : Int32))] [(.ref da), (.int (1 : Int32))])) rfl rfl (hb hby d_jdk_38_method_24_2) _ ?_
    rw [len_of Sz Nn]
    exact kt
  refine own_go (B := s₁.setTop (mkF m 3 #[.val (.ref a), .val (.ref t1), .val (.ref da), .val (.int (1 : Int32))] [(.int (10 : Int32)), (.int (1 : Int32))])) st1 ?_
  refine own_go (B := s₁.setTop (mkF m 14 #[.val (.ref a), .val (.ref t1), .val (.ref da), .val (.int (1 : Int32))] [(.ref t1), (.int (1 : Int32)), (.ref da)])) (fun t k => ?_) ?_
  · show Steps p.tables e below (s₁.setTop (mkF m 3 #[.val (.ref a), .val (.ref t1), .val (.ref da), .val (.int (1 : Int32))] [(.int (10 : Int32)), (.int (1 : Int32))])) _
    refine XS.icmpYes X0.here hx rfl (pc0 := 3) (pc' := 11) rfl (hb hby d_jdk_38_method_24_3) rfl (feq (by decide)).2 (by decide) (by decide) ?_
    show Steps p.tables e below (s₁.setTop (mkF m 11 #[.val (.ref a), .val (.ref t1), .val (.ref da), .val (.int (1 : Int32))] [])) _
    refine XS.aloadN X0.here hx rfl (hb hby d_jdk_38_method_24_11) rfl rfl ?_
    show Steps p.tables e below (s₁.setTop (mkF m 12 #[.val (.ref a), .val (.ref t1), .val (.ref da), .val (.int (1 : Int32))] [(.ref da)])) _
    refine XS.iloadN X0.here hx rfl (hb hby d_jdk_38_method_24_12) rfl ?_
    show Steps p.tables e below (s₁.setTop (mkF m 13 #[.val (.ref a), .val (.ref t1), .val (.ref da), .val (.int (1 : Int32))] [(.int (1 : Int32)), (.ref da)])) _
    refine XS.aloadN X0.here hx rfl (hb hby d_jdk_38_method_24_13) rfl rfl ?_
    show Steps p.tables e below (s₁.setTop (mkF m 14 #[.val (.ref a), .val (.ref t1), .val (.ref da), .val (.int (1 : Int32))] [(.ref t1), (.int (1 : Int32)), (.ref da)])) _
    exact k
  obtain ⟨cl2, Ar2, q2, Sz2, Nn2, Hs2, Gt2⟩ := V1
  have hin2 : ¬ ((1 : Int32) < 0 ∨ cl2.slots.size ≤ ((1 : Int32)).toNatClampNeg) := inb_of Sz2 ⟨by decide, by decide⟩
  obtain ⟨T2, h2, X2, e2, W2, st2⟩ := stR X0 hx hZ e0 Ar2 (j := (1 : Int32)) hin2 rfl (Sto.ofV Ar2 q2 ov (Ins.of_exa E_t1 (hw _ (own_g (i := 168) rfl)))) (g := (mkF m 14 #[.val (.ref a), .val (.ref t1), .val (.ref da), .val (.int (1 : Int32))] [(.ref t1), (.int (1 : Int32)), (.ref da)])) rfl rfl (hb hby d_jdk_38_method_24_14)
  have V2 : Arv Z h2 da kda (.object "java/lang/Object") (10 : Int32) [(.ref t0), (.ref t1), .null, .null, .null, .null, .null, .null, .null, .null] .null := Arv.set Ar2 q2 Sz2 Nn2 Hs2 Gt2 rfl W2 1 rfl (Nat.le_of_ble_eq_true rfl)
  replace E := E.wr W2
  replace F1 := F1.other W2 (Or.inl nad)
  replace F2 := F2.other W2 (Or.inl nad)
  replace F3 := F3.other W2 (Or.inl nad)
  replace E_t1 := E_t1.wr W2
  replace O := O.wr W2 gd
  replace K := K.wr W2 (Or.inl (own_g (i := 1) rfl))
  replace N := Fr.snoc X2 N gd
  refine own_go (B := T2.setTop (mkF m 15 #[.val (.ref a), .val (.ref t1), .val (.ref da), .val (.int (1 : Int32))] [])) st2 ?_
  refine own_go (B := T2.setTop (mkF m 19 #[.val (.ref a), .val (.ref t1), .val (.ref da), .val (.int (1 : Int32))] [(.int ((1 : Int32) + (1 : Int32))), (.ref a)])) (fun t k => ?_) ?_
  · show Steps p.tables e below (T2.setTop (mkF m 15 #[.val (.ref a), .val (.ref t1), .val (.ref da), .val (.int (1 : Int32))] [])) _
    refine XS.aloadN X2.here hx rfl (hb hby d_jdk_38_method_24_15) rfl rfl ?_
    show Steps p.tables e below (T2.setTop (mkF m 16 #[.val (.ref a), .val (.ref t1), .val (.ref da), .val (.int (1 : Int32))] [(.ref a)])) _
    refine XS.iloadN X2.here hx rfl (hb hby d_jdk_38_method_24_16) rfl ?_
    show Steps p.tables e below (T2.setTop (mkF m 17 #[.val (.ref a), .val (.ref t1), .val (.ref da), .val (.int (1 : Int32))] [(.int (1 : Int32)), (.ref a)])) _
    refine XS.iconst X2.here hx rfl (hb hby d_jdk_38_method_24_17) ?_
    show Steps p.tables e below (T2.setTop (mkF m 18 #[.val (.ref a), .val (.ref t1), .val (.ref da), .val (.int (1 : Int32))] [(.int (1 : Int32)), (.int (1 : Int32)), (.ref a)])) _
    refine XS.iadd X2.here hx rfl (hb hby d_jdk_38_method_24_18) rfl ?_
    show Steps p.tables e below (T2.setTop (mkF m 19 #[.val (.ref a), .val (.ref t1), .val (.ref da), .val (.int (1 : Int32))] [(.int ((1 : Int32) + (1 : Int32))), (.ref a)])) _
    exact k
  rw [(show ((1 : Int32) + (1 : Int32)) = (2 : Int32) from by decide)]
  obtain ⟨T3, h3, X3, e3, W3, st3⟩ := putF X2 hx hZ hown (host := "") (Or.inl (hw _ (own_g (i := 125) rfl))) Via.refl e2 F3 E (Or.inl (hw _ (own_g (i := 126) rfl))) (hw _ (own_g (i := 59) rfl)) (ty := .int) (by decide) rfl rfl (g := (mkF m 19 #[.val (.ref a), .val (.ref t1), .val (.ref da), .val (.int (1 : Int32))] [(.int (2 : Int32)), (.ref a)])) rfl rfl (hb hby d_jdk_38_method_24_19)
  have Fw3 := F3.same W3
  replace E := E.wr W3
  replace F1 := F1.other W3 (Or.inr (slot_ne (Or.inl (hw _ (own_g (i := 78) rfl))) (Or.inl (hw _ (own_g (i := 126) rfl))) (by decide) (t := .int) (t' := .int) (by decide) (by decide)))
  replace F2 := F2.other W3 (Or.inr (slot_ne (Or.inl (hw _ (own_g (i := 81) rfl))) (Or.inl (hw _ (own_g (i := 126) rfl))) (by decide) (t := (.array (.object "java/lang/Object"))) (t' := .int) (by decide) (by decide)))
  clear F3
  replace E_t1 := E_t1.wr W3
  replace V2 := V2.other W3 (Ne.symm nad)
  replace O := O.wr W3 ga
  replace K := K.wr W3 (Or.inl (own_g (i := 0) rfl))
  replace N := Fr.snoc X3 N ga
  refine own_go (B := T3.setTop (mkF m 22 #[.val (.ref a), .val (.ref t1), .val (.ref da), .val (.int (1 : Int32))] [])) st3 ?_
  obtain ⟨fs, hr, hrun, hended, hW, hsame⟩ := X3.leave (v := none) (fun _ => rfl)
  refine ⟨_, _, X3.returnOut hx Bd.returns (hb hby d_jdk_38_method_24_22) hr, hfin _ _ ⟨hrun, hended, _, _, rfl, ?_, ⟨_, rfl⟩, hW, hsame.mono (by decide) (by decide)⟩⟩
  show QA31 Z a t1 mc da kda t0 h0 n0 _ T3.heap _
  rw [e3]
  exact ⟨rfl, N, K, F1, F2, Fw3, V2⟩
def QA10 (Z : State) (a : Addr) (t0 : Addr) (mc : Int32) (dz : Addr) (kz : ClassId) (h0 : Heap) (n0 : Nat) (v : Option Value) (h : Heap) (L : List Loc) : Prop := ∃ da : Addr, ∃ kda : ClassId, v = some (.int (1 : Int32)) ∧ Fr n0 L ∧ Keep h0 h [a] ∧ h0.size ≤ da ∧ Fld Z h a "java/util/AbstractList" "modCount" "I" (.int (mc + (1 : Int32))) ∧ Fld Z h a "java/util/ArrayList" "elementData" "[Ljava/lang/Object;" (.ref da) ∧ Fld Z h a "java/util/ArrayList" "size" "I" (.int (1 : Int32)) ∧ Arv Z h da kda (.object "java/lang/Object") (10 : Int32) [(.ref t0), .null, .null, .null, .null, .null, .null, .null, .null, .null] .null ∧ (Ovr Z kda "java/lang/Object")
theorem ef_A10 (m : MethodId) (a : Addr) (t0 : Addr) : entryFrame m #[(.ref a), (.ref t0)] 2 = mkF m 0 #[.val (.ref a), .val (.ref t0)] [] := by first | (simp [entryFrame, mkF, argsToLocals, Value.category]; done) | rfl | (rfl)
set_option maxRecDepth 65536 in
set_option maxHeartbeats 40000000 in
theorem rmA10 (l : Launch) (Z : State) (a0 : Array Value) (hw : ∀ d ∈ tables_1, d.before a0 Z = true) (ws : List Jvm.Cond) (a : Addr) (t0 : Addr) (mc : Int32) (dz : Addr) (kz : ClassId) (h0 : Heap) (n0 : Nat) (O : Old Z n0 h0) (E : Exa Z h0 a "java/util/ArrayList") (F1 : Fld Z h0 a "java/util/AbstractList" "modCount" "I" (.int mc)) (F2 : Fld Z h0 a "java/util/ArrayList" "elementData" "[Ljava/lang/Object;" (.ref dz)) (F3 : Fld Z h0 a "java/util/ArrayList" "size" "I" (.int (0 : Int32))) (ga : n0 ≤ a) (S_D : Sta Z Z.heap "java/util/ArrayList" "DEFAULTCAPACITY_EMPTY_ELEMENTDATA" "[Ljava/lang/Object;" (.ref dz)) (V_Z : Arv Z Z.heap dz kz (.object "java/lang/Object") (0 : Int32) [] .null) (E_t0 : Exa Z h0 t0 "com/example/nasute/nasute/sql/Token") :
    MetFree l (⟨"java/util/ArrayList", "add", "(Ljava/lang/Object;)Z"⟩ : MethodName) (head1 (Jvm.Cond.code (⟨"java/util/ArrayList", "add", "(Ljava/lang/Object;)Z"⟩ : MethodName) jdk_38_method_25_code 2 (some .boolean) :: ws) ({ frames := 4, cells := 1, slots := 10, locals := 56 } : Room)) (fun as_ U => as_ = #[(.ref a), (.ref t0)] ∧ Z.Warmed39 U.vm ∧ U.heap = h0) (fun _ _ _ _ _ => True) (fun _ U oo_ U' => ∃ vv_ LL_, oo_ = .returned vv_ ∧ QA10 Z a t0 mc dz kz h0 n0 vv_ U'.heap LL_ ∧ FrameEnd U oo_ U' LL_ ({ frames := 4, cells := 1, slots := 10, locals := 56 } : Room).cells ({ frames := 4, cells := 1, slots := 10, locals := 56 } : Room).slots) := by
  refine MetFree.of_bodySF (plainFor_of_name pn_7) hisR ?_
  intro p e s m args below meth c s₁ Bd hml0 hP hK
  obtain ⟨rfl, hZ, hh⟩ := hP
  have hx := Bd.exec
  have hby := Bd.bytes
  have hml : c.maxLocals = 2 := hml0
  have hown : s.vm.findClass "java/util/ArrayList" = some m.cls := findClass_of_methodNamed Bd.named
  have hnm := (name_of_methodNamed Bd.named Bd.method).1
  have X0 : Stand p l e ({ frames := 4, cells := 1, slots := 10, locals := 56 } : Room) s m #[(.ref a), (.ref t0)] below meth c s₁ [] 0 0 := Stand.of_body Bd
  have e0 : s₁.heap = h0 := by rw [← hh, Bd.state]; rfl
  have N := Fr.nil n0
  have K : Keep h0 h0 [a] := Keep.refl h0 _
  refine own_go (B := s₁.setTop (mkF m 0 #[.val (.ref a), .val (.ref t0)] [])) (fun t k => castTop (ef_A10 m a t0) k) ?_
  refine own_abs (fun P hfin => ?_)
  refine own_go (B := s₁.setTop (mkF m 2 #[.val (.ref a), .val (.ref t0)] [(.ref a), (.ref a)])) (fun t k => ?_) ?_
  · show Steps p.tables e below (s₁.setTop (mkF m 0 #[.val (.ref a), .val (.ref t0)] [])) _
    refine XS.aloadN X0.here hx rfl (hb hby d_jdk_38_method_25_0) rfl rfl ?_
    show Steps p.tables e below (s₁.setTop (mkF m 1 #[.val (.ref a), .val (.ref t0)] [(.ref a)])) _
    refine XS.dup X0.here hx rfl (hb hby d_jdk_38_method_25_1) rfl rfl ?_
    show Steps p.tables e below (s₁.setTop (mkF m 2 #[.val (.ref a), .val (.ref t0)] [(.ref a), (.ref a)])) _
    exact k
  obtain ⟨T1, X1, e1, st1⟩ := getF X0 hx hZ hown (host := "") (Or.inl (hw _ (own_g (i := 146) rfl))) (Via.of (hw _ (own_g (i := 147) rfl))) e0 F1 (g := (mkF m 2 #[.val (.ref a), .val (.ref t0)] [(.ref a), (.ref a)])) rfl rfl (hb hby d_jdk_38_method_25_2)
  refine own_go (B := T1.setTop (mkF m 5 #[.val (.ref a), .val (.ref t0)] [(.int mc), (.ref a)])) st1 ?_
  refine own_go (B := T1.setTop (mkF m 7 #[.val (.ref a), .val (.ref t0)] [(.int (mc + (1 : Int32))), (.ref a)])) (fun t k => ?_) ?_
  · show Steps p.tables e below (T1.setTop (mkF m 5 #[.val (.ref a), .val (.ref t0)] [(.int mc), (.ref a)])) _
    refine XS.iconst X1.here hx rfl (hb hby d_jdk_38_method_25_5) ?_
    show Steps p.tables e below (T1.setTop (mkF m 6 #[.val (.ref a), .val (.ref t0)] [(.int (1 : Int32)), (.int mc), (.ref a)])) _
    refine XS.iadd X1.here hx rfl (hb hby d_jdk_38_method_25_6) rfl ?_
    show Steps p.tables e below (T1.setTop (mkF m 7 #[.val (.ref a), .val (.ref t0)] [(.int (mc + (1 : Int32))), (.ref a)])) _
    exact k
  obtain ⟨T2, h2, X2, e2, W2, st2⟩ := putF X1 hx hZ hown (host := "") (Or.inl (hw _ (own_g (i := 146) rfl))) (Via.of (hw _ (own_g (i := 147) rfl))) e1 F1 E (Or.inl (hw _ (own_g (i := 78) rfl))) (hw _ (own_g (i := 59) rfl)) (ty := .int) (by decide) rfl rfl (g := (mkF m 7 #[.val (.ref a), .val (.ref t0)] [(.int (mc + (1 : Int32))), (.ref a)])) rfl rfl (hb hby d_jdk_38_method_25_7)
  have Fw2 := F1.same W2
  replace E := E.wr W2
  clear F1
  replace F2 := F2.other W2 (Or.inr (slot_ne (Or.inl (hw _ (own_g (i := 81) rfl))) (Or.inl (hw _ (own_g (i := 78) rfl))) (by decide) (t := (.array (.object "java/lang/Object"))) (t' := .int) (by decide) (by decide)))
  replace F3 := F3.other W2 (Or.inr (slot_ne (Or.inl (hw _ (own_g (i := 126) rfl))) (Or.inl (hw _ (own_g (i := 78) rfl))) (by decide) (t := .int) (t' := .int) (by decide) (by decide)))
  replace E_t0 := E_t0.wr W2
  replace O := O.wr W2 ga
  replace K := K.wr W2 (Or.inl (own_g (i := 0) rfl))
  replace N := Fr.snoc X2 N ga
  refine own_go (B := T2.setTop (mkF m 10 #[.val (.ref a), .val (.ref t0)] [])) st2 ?_
  refine own_go (B := T2.setTop (mkF m 13 #[.val (.ref a), .val (.ref t0)] [(.ref a), (.ref t0), (.ref a)])) (fun t k => ?_) ?_
  · show Steps p.tables e below (T2.setTop (mkF m 10 #[.val (.ref a), .val (.ref t0)] [])) _
    refine XS.aloadN X2.here hx rfl (hb hby d_jdk_38_method_25_10) rfl rfl ?_
    show Steps p.tables e below (T2.setTop (mkF m 11 #[.val (.ref a), .val (.ref t0)] [(.ref a)])) _
    refine XS.aloadN X2.here hx rfl (hb hby d_jdk_38_method_25_11) rfl rfl ?_
    show Steps p.tables e below (T2.setTop (mkF m 12 #[.val (.ref a), .val (.ref t0)] [(.ref t0), (.ref a)])) _
    refine XS.aloadN X2.here hx rfl (hb hby d_jdk_38_method_25_12) rfl rfl ?_
    show Steps p.tables e below (T2.setTop (mkF m 13 #[.val (.ref a), .val (.ref t0)] [(.ref a), (.ref t0), (.ref a)])) _
    exact k
  obtain ⟨T3, X3, e3, st3⟩ := getF X2 hx hZ hown (host := "") (Or.inl (hw _ (own_g (i := 80) rfl))) Via.refl e2 F2 (g := (mkF m 13 #[.val (.ref a), .val (.ref t0)] [(.ref a), (.ref t0), (.ref a)])) rfl rfl (hb hby d_jdk_38_method_25_13)
  refine own_go (B := T3.setTop (mkF m 16 #[.val (.ref a), .val (.ref t0)] [(.ref dz), (.ref t0), (.ref a)])) st3 ?_
  refine own_go (B := T3.setTop (mkF m 17 #[.val (.ref a), .val (.ref t0)] [(.ref a), (.ref dz), (.ref t0), (.ref a)])) (fun t k => ?_) ?_
  · show Steps p.tables e below (T3.setTop (mkF m 16 #[.val (.ref a), .val (.ref t0)] [(.ref dz), (.ref t0), (.ref a)])) _
    refine XS.aloadN X3.here hx rfl (hb hby d_jdk_38_method_25_16) rfl rfl ?_
    show Steps p.tables e below (T3.setTop (mkF m 17 #[.val (.ref a), .val (.ref t0)] [(.ref a), (.ref dz), (.ref t0), (.ref a)])) _
    exact k
  obtain ⟨T4, X4, e4, st4⟩ := getF X3 hx hZ hown (host := "") (Or.inl (hw _ (own_g (i := 125) rfl))) Via.refl e3 F3 (g := (mkF m 17 #[.val (.ref a), .val (.ref t0)] [(.ref a), (.ref dz), (.ref t0), (.ref a)])) rfl rfl (hb hby d_jdk_38_method_25_17)
  refine own_go (B := T4.setTop (mkF m 20 #[.val (.ref a), .val (.ref t0)] [(.int (0 : Int32)), (.ref dz), (.ref t0), (.ref a)])) st4 ?_
  -- pc 20: java/util/ArrayList.add
  obtain ⟨cq5, q5, q5'⟩ := E.cell
  obtain ⟨_, _, ⟨T5, L5, k5, n5⟩, -, X5, ⟨Lc5, hQ5, l5, y5, z5⟩, st5⟩ := X4.privateBack hx (y := (⟨"java/util/ArrayList", "add", "(Ljava/lang/Object;[Ljava/lang/Object;I)V"⟩ : MethodName)) hown (mvT hZ (hw _ (own_g (i := 148) rfl))) (mvT hZ (hw _ (own_g (i := 149) rfl))) (mvT hZ (hw _ (own_g (i := 151) rfl))) (Cond.privateMethod_at (mvP hZ (hw _ (own_g (i := 150) rfl)) (args := #[]))) (mvT hZ (hw _ (own_g (i := 152) rfl))) (by decide) (backOf (W := 0) (rmA30 l Z a0 hw [] a t0 (mc + (1 : Int32)) dz kz h2 n0 O E Fw2 F2 F3 ga S_D V_Z E_t0) hZ (hw _ (own_g (i := 152) rfl)) (hw _ (own_g (i := 60) rfl)) (by decide) (by decide)) (g := (mkF m 20 #[.val (.ref a), .val (.ref t0)] [(.int (0 : Int32)), (.ref dz), (.ref t0), (.ref a)])) rfl (by rw [hml]; rfl) (Steps.refl _) (a := a) (by rw [e4]; exact q5) q5' (argsL := [(.ref t0), (.ref dz), (.int (0 : Int32))]) (rest := []) (lenOf pd_10 rfl) rfl (by show 2 * 0 + _ ≤ _; exact Nat.le_of_eq rfl) (hb hby d_jdk_38_method_25_20) (fun _ hWm => ⟨rfl, e4, (by decide : 0 + 1 ≤ _), (by decide : 0 + 10 ≤ _)⟩)
  dsimp only [Pt.U, Pt.locs, Pt.cells, Pt.slots] at X5 l5 y5 z5 st5 hQ5
  subst l5 y5 z5
  obtain ⟨da5, kda5, rfl, Nq5, Kq5, fq5_da, Gq5_0, Gq5_1, Gq5_2, Gq5_3, cq5_0⟩ := hQ5
  replace N := Fr.app N Nq5
  have lt_a_da5 : a < da5 := Nat.lt_of_lt_of_le E.lt fq5_da
  have lt_t0_da5 : t0 < da5 := Nat.lt_of_lt_of_le E_t0.lt fq5_da
  have g_da5 : n0 ≤ da5 := Nat.le_trans (own_oldsz O) fq5_da
  have s_da5 : h0.size ≤ da5 := Nat.le_trans K.1 fq5_da
  replace E := E.keep Kq5
  clear F2
  clear F3
  replace E_t0 := E_t0.keep Kq5
  clear Fw2
  replace O := O.keep Kq5 (allS ga all0)
  replace K := K.trans Kq5 (allS (Or.inl (own_g (i := 0) rfl)) all0)
  refine own_go (B := T5.setTop (mkF m 23 #[.val (.ref a), .val (.ref t0)] [])) (fun t k => st5.trans k) ?_
  refine own_go (B := T5.setTop (mkF m 24 #[.val (.ref a), .val (.ref t0)] [(.int (1 : Int32))])) (fun t k => ?_) ?_
  · show Steps p.tables e below (T5.setTop (mkF m 23 #[.val (.ref a), .val (.ref t0)] [])) _
    refine XS.iconst X5.here hx rfl (hb hby d_jdk_38_method_25_23) ?_
    show Steps p.tables e below (T5.setTop (mkF m 24 #[.val (.ref a), .val (.ref t0)] [(.int (1 : Int32))])) _
    exact k
  obtain ⟨fs, hr, hrun, hended, hW, hsame⟩ := X5.leave (v := some (.int (1 : Int32))) (fun h => by rw [Bd.returns] at h; cases h)
  refine ⟨_, _, retN X5 hx (t := .boolean) Bd.returns (by simp) (hb hby d_jdk_38_method_25_24) hr, hfin _ _ ⟨hrun, hended, _, _, rfl, ?_, ⟨_, rfl⟩, hW, hsame.mono (by decide) (by decide)⟩⟩
  show QA10 Z a t0 mc dz kz h0 n0 _ T5.heap _
  exact ⟨da5, kda5, rfl, N, K, s_da5, Gq5_0, Gq5_1, Gq5_2, Gq5_3, cq5_0⟩
def QA11 (Z : State) (a : Addr) (t1 : Addr) (mc : Int32) (da : Addr) (kda : ClassId) (t0 : Addr) (h0 : Heap) (n0 : Nat) (v : Option Value) (h : Heap) (L : List Loc) : Prop := v = some (.int (1 : Int32)) ∧ Fr n0 L ∧ Keep h0 h [a, da] ∧ Fld Z h a "java/util/AbstractList" "modCount" "I" (.int (mc + (1 : Int32))) ∧ Fld Z h a "java/util/ArrayList" "elementData" "[Ljava/lang/Object;" (.ref da) ∧ Fld Z h a "java/util/ArrayList" "size" "I" (.int (2 : Int32)) ∧ Arv Z h da kda (.object "java/lang/Object") (10 : Int32) [(.ref t0), (.ref t1), .null, .null, .null, .null, .null, .null, .null, .null] .null
theorem ef_A11 (m : MethodId) (a : Addr) (t1 : Addr) : entryFrame m #[(.ref a), (.ref t1)] 2 = mkF m 0 #[.val (.ref a), .val (.ref t1)] [] := by first | (simp [entryFrame, mkF, argsToLocals, Value.category]; done) | rfl | (rfl)
set_option maxRecDepth 65536 in
set_option maxHeartbeats 40000000 in
theorem rmA11 (l : Launch) (Z : State) (a0 : Array Value) (hw : ∀ d ∈ tables_1, d.before a0 Z = true) (ws : List Jvm.Cond) (a : Addr) (t1 : Addr) (mc : Int32) (da : Addr) (kda : ClassId) (t0 : Addr) (h0 : Heap) (n0 : Nat) (O : Old Z n0 h0) (E : Exa Z h0 a "java/util/ArrayList") (F1 : Fld Z h0 a "java/util/AbstractList" "modCount" "I" (.int mc)) (F2 : Fld Z h0 a "java/util/ArrayList" "elementData" "[Ljava/lang/Object;" (.ref da)) (F3 : Fld Z h0 a "java/util/ArrayList" "size" "I" (.int (1 : Int32))) (ga : n0 ≤ a) (V1 : Arv Z h0 da kda (.object "java/lang/Object") (10 : Int32) [(.ref t0), .null, .null, .null, .null, .null, .null, .null, .null, .null] .null) (gd : n0 ≤ da) (nad : a ≠ da) (E_t1 : Exa Z h0 t1 "com/example/nasute/nasute/sql/Token") (ov : Ovr Z kda "java/lang/Object") :
    MetFree l (⟨"java/util/ArrayList", "add", "(Ljava/lang/Object;)Z"⟩ : MethodName) (head1 (Jvm.Cond.code (⟨"java/util/ArrayList", "add", "(Ljava/lang/Object;)Z"⟩ : MethodName) jdk_38_method_25_code 2 (some .boolean) :: ws) ({ frames := 1, cells := 0, slots := 0, locals := 15 } : Room)) (fun as_ U => as_ = #[(.ref a), (.ref t1)] ∧ Z.Warmed39 U.vm ∧ U.heap = h0) (fun _ _ _ _ _ => True) (fun _ U oo_ U' => ∃ vv_ LL_, oo_ = .returned vv_ ∧ QA11 Z a t1 mc da kda t0 h0 n0 vv_ U'.heap LL_ ∧ FrameEnd U oo_ U' LL_ ({ frames := 1, cells := 0, slots := 0, locals := 15 } : Room).cells ({ frames := 1, cells := 0, slots := 0, locals := 15 } : Room).slots) := by
  refine MetFree.of_bodySF (plainFor_of_name pn_7) hisR ?_
  intro p e s m args below meth c s₁ Bd hml0 hP hK
  obtain ⟨rfl, hZ, hh⟩ := hP
  have hx := Bd.exec
  have hby := Bd.bytes
  have hml : c.maxLocals = 2 := hml0
  have hown : s.vm.findClass "java/util/ArrayList" = some m.cls := findClass_of_methodNamed Bd.named
  have hnm := (name_of_methodNamed Bd.named Bd.method).1
  have X0 : Stand p l e ({ frames := 1, cells := 0, slots := 0, locals := 15 } : Room) s m #[(.ref a), (.ref t1)] below meth c s₁ [] 0 0 := Stand.of_body Bd
  have e0 : s₁.heap = h0 := by rw [← hh, Bd.state]; rfl
  have N := Fr.nil n0
  have K : Keep h0 h0 [a, da] := Keep.refl h0 _
  refine own_go (B := s₁.setTop (mkF m 0 #[.val (.ref a), .val (.ref t1)] [])) (fun t k => castTop (ef_A11 m a t1) k) ?_
  refine own_abs (fun P hfin => ?_)
  refine own_go (B := s₁.setTop (mkF m 2 #[.val (.ref a), .val (.ref t1)] [(.ref a), (.ref a)])) (fun t k => ?_) ?_
  · show Steps p.tables e below (s₁.setTop (mkF m 0 #[.val (.ref a), .val (.ref t1)] [])) _
    refine XS.aloadN X0.here hx rfl (hb hby d_jdk_38_method_25_0) rfl rfl ?_
    show Steps p.tables e below (s₁.setTop (mkF m 1 #[.val (.ref a), .val (.ref t1)] [(.ref a)])) _
    refine XS.dup X0.here hx rfl (hb hby d_jdk_38_method_25_1) rfl rfl ?_
    show Steps p.tables e below (s₁.setTop (mkF m 2 #[.val (.ref a), .val (.ref t1)] [(.ref a), (.ref a)])) _
    exact k
  obtain ⟨T1, X1, e1, st1⟩ := getF X0 hx hZ hown (host := "") (Or.inl (hw _ (own_g (i := 146) rfl))) (Via.of (hw _ (own_g (i := 147) rfl))) e0 F1 (g := (mkF m 2 #[.val (.ref a), .val (.ref t1)] [(.ref a), (.ref a)])) rfl rfl (hb hby d_jdk_38_method_25_2)
  refine own_go (B := T1.setTop (mkF m 5 #[.val (.ref a), .val (.ref t1)] [(.int mc), (.ref a)])) st1 ?_
  refine own_go (B := T1.setTop (mkF m 7 #[.val (.ref a), .val (.ref t1)] [(.int (mc + (1 : Int32))), (.ref a)])) (fun t k => ?_) ?_
  · show Steps p.tables e below (T1.setTop (mkF m 5 #[.val (.ref a), .val (.ref t1)] [(.int mc), (.ref a)])) _
    refine XS.iconst X1.here hx rfl (hb hby d_jdk_38_method_25_5) ?_
    show Steps p.tables e below (T1.setTop (mkF m 6 #[.val (.ref a), .val (.ref t1)] [(.int (1 : Int32)), (.int mc), (.ref a)])) _
    refine XS.iadd X1.here hx rfl (hb hby d_jdk_38_method_25_6) rfl ?_
    show Steps p.tables e below (T1.setTop (mkF m 7 #[.val (.ref a), .val (.ref t1)] [(.int (mc + (1 : Int32))), (.ref a)])) _
    exact k
  obtain ⟨T2, h2, X2, e2, W2, st2⟩ := putF X1 hx hZ hown (host := "") (Or.inl (hw _ (own_g (i := 146) rfl))) (Via.of (hw _ (own_g (i := 147) rfl))) e1 F1 E (Or.inl (hw _ (own_g (i := 78) rfl))) (hw _ (own_g (i := 59) rfl)) (ty := .int) (by decide) rfl rfl (g := (mkF m 7 #[.val (.ref a), .val (.ref t1)] [(.int (mc + (1 : Int32))), (.ref a)])) rfl rfl (hb hby d_jdk_38_method_25_7)
  have Fw2 := F1.same W2
  replace E := E.wr W2
  clear F1
  replace F2 := F2.other W2 (Or.inr (slot_ne (Or.inl (hw _ (own_g (i := 81) rfl))) (Or.inl (hw _ (own_g (i := 78) rfl))) (by decide) (t := (.array (.object "java/lang/Object"))) (t' := .int) (by decide) (by decide)))
  replace F3 := F3.other W2 (Or.inr (slot_ne (Or.inl (hw _ (own_g (i := 126) rfl))) (Or.inl (hw _ (own_g (i := 78) rfl))) (by decide) (t := .int) (t' := .int) (by decide) (by decide)))
  replace V1 := V1.other W2 (Ne.symm nad)
  replace E_t1 := E_t1.wr W2
  replace O := O.wr W2 ga
  replace K := K.wr W2 (Or.inl (own_g (i := 0) rfl))
  replace N := Fr.snoc X2 N ga
  refine own_go (B := T2.setTop (mkF m 10 #[.val (.ref a), .val (.ref t1)] [])) st2 ?_
  refine own_go (B := T2.setTop (mkF m 13 #[.val (.ref a), .val (.ref t1)] [(.ref a), (.ref t1), (.ref a)])) (fun t k => ?_) ?_
  · show Steps p.tables e below (T2.setTop (mkF m 10 #[.val (.ref a), .val (.ref t1)] [])) _
    refine XS.aloadN X2.here hx rfl (hb hby d_jdk_38_method_25_10) rfl rfl ?_
    show Steps p.tables e below (T2.setTop (mkF m 11 #[.val (.ref a), .val (.ref t1)] [(.ref a)])) _
    refine XS.aloadN X2.here hx rfl (hb hby d_jdk_38_method_25_11) rfl rfl ?_
    show Steps p.tables e below (T2.setTop (mkF m 12 #[.val (.ref a), .val (.ref t1)] [(.ref t1), (.ref a)])) _
    refine XS.aloadN X2.here hx rfl (hb hby d_jdk_38_method_25_12) rfl rfl ?_
    show Steps p.tables e below (T2.setTop (mkF m 13 #[.val (.ref a), .val (.ref t1)] [(.ref a), (.ref t1), (.ref a)])) _
    exact k
  obtain ⟨T3, X3, e3, st3⟩ := getF X2 hx hZ hown (host := "") (Or.inl (hw _ (own_g (i := 80) rfl))) Via.refl e2 F2 (g := (mkF m 13 #[.val (.ref a), .val (.ref t1)] [(.ref a), (.ref t1), (.ref a)])) rfl rfl (hb hby d_jdk_38_method_25_13)
  refine own_go (B := T3.setTop (mkF m 16 #[.val (.ref a), .val (.ref t1)] [(.ref da), (.ref t1), (.ref a)])) st3 ?_
  refine own_go (B := T3.setTop (mkF m 17 #[.val (.ref a), .val (.ref t1)] [(.ref a), (.ref da), (.ref t1), (.ref a)])) (fun t k => ?_) ?_
  · show Steps p.tables e below (T3.setTop (mkF m 16 #[.val (.ref a), .val (.ref t1)] [(.ref da), (.ref t1), (.ref a)])) _
    refine XS.aloadN X3.here hx rfl (hb hby d_jdk_38_method_25_16) rfl rfl ?_
    show Steps p.tables e below (T3.setTop (mkF m 17 #[.val (.ref a), .val (.ref t1)] [(.ref a), (.ref da), (.ref t1), (.ref a)])) _
    exact k
  obtain ⟨T4, X4, e4, st4⟩ := getF X3 hx hZ hown (host := "") (Or.inl (hw _ (own_g (i := 125) rfl))) Via.refl e3 F3 (g := (mkF m 17 #[.val (.ref a), .val (.ref t1)] [(.ref a), (.ref da), (.ref t1), (.ref a)])) rfl rfl (hb hby d_jdk_38_method_25_17)
  refine own_go (B := T4.setTop (mkF m 20 #[.val (.ref a), .val (.ref t1)] [(.int (1 : Int32)), (.ref da), (.ref t1), (.ref a)])) st4 ?_
  -- pc 20: java/util/ArrayList.add
  obtain ⟨cq5, q5, q5'⟩ := E.cell
  obtain ⟨_, _, ⟨T5, L5, k5, n5⟩, -, X5, ⟨Lc5, hQ5, l5, y5, z5⟩, st5⟩ := X4.privateBack hx (y := (⟨"java/util/ArrayList", "add", "(Ljava/lang/Object;[Ljava/lang/Object;I)V"⟩ : MethodName)) hown (mvT hZ (hw _ (own_g (i := 148) rfl))) (mvT hZ (hw _ (own_g (i := 149) rfl))) (mvT hZ (hw _ (own_g (i := 151) rfl))) (Cond.privateMethod_at (mvP hZ (hw _ (own_g (i := 150) rfl)) (args := #[]))) (mvT hZ (hw _ (own_g (i := 152) rfl))) (by decide) (backOf (W := 0) (rmA31 l Z a0 hw [] a t1 (mc + (1 : Int32)) da kda t0 h2 n0 O E Fw2 F2 F3 ga V1 gd nad E_t1 ov) hZ (hw _ (own_g (i := 152) rfl)) (hw _ (own_g (i := 60) rfl)) (by decide) (by decide)) (g := (mkF m 20 #[.val (.ref a), .val (.ref t1)] [(.int (1 : Int32)), (.ref da), (.ref t1), (.ref a)])) rfl (by rw [hml]; rfl) (Steps.refl _) (a := a) (by rw [e4]; exact q5) q5' (argsL := [(.ref t1), (.ref da), (.int (1 : Int32))]) (rest := []) (lenOf pd_10 rfl) rfl (by show 2 * 0 + _ ≤ _; exact Nat.le_of_eq rfl) (hb hby d_jdk_38_method_25_20) (fun _ hWm => ⟨rfl, e4, (by decide : 0 + 0 ≤ _), (by decide : 0 + 0 ≤ _)⟩)
  dsimp only [Pt.U, Pt.locs, Pt.cells, Pt.slots] at X5 l5 y5 z5 st5 hQ5
  subst l5 y5 z5
  obtain ⟨rfl, Nq5, Kq5, Gq5_0, Gq5_1, Gq5_2, Gq5_3⟩ := hQ5
  replace N := Fr.app N Nq5
  replace E := E.keep Kq5
  clear F2
  clear F3
  clear V1
  replace E_t1 := E_t1.keep Kq5
  clear Fw2
  replace O := O.keep Kq5 (allS ga (allS gd all0))
  replace K := K.trans Kq5 (allS (Or.inl (own_g (i := 0) rfl)) (allS (Or.inl (own_g (i := 1) rfl)) all0))
  refine own_go (B := T5.setTop (mkF m 23 #[.val (.ref a), .val (.ref t1)] [])) (fun t k => st5.trans k) ?_
  refine own_go (B := T5.setTop (mkF m 24 #[.val (.ref a), .val (.ref t1)] [(.int (1 : Int32))])) (fun t k => ?_) ?_
  · show Steps p.tables e below (T5.setTop (mkF m 23 #[.val (.ref a), .val (.ref t1)] [])) _
    refine XS.iconst X5.here hx rfl (hb hby d_jdk_38_method_25_23) ?_
    show Steps p.tables e below (T5.setTop (mkF m 24 #[.val (.ref a), .val (.ref t1)] [(.int (1 : Int32))])) _
    exact k
  obtain ⟨fs, hr, hrun, hended, hW, hsame⟩ := X5.leave (v := some (.int (1 : Int32))) (fun h => by rw [Bd.returns] at h; cases h)
  refine ⟨_, _, retN X5 hx (t := .boolean) Bd.returns (by simp) (hb hby d_jdk_38_method_25_24) hr, hfin _ _ ⟨hrun, hended, _, _, rfl, ?_, ⟨_, rfl⟩, hW, hsame.mono (by decide) (by decide)⟩⟩
  show QA11 Z a t1 mc da kda t0 h0 n0 _ T5.heap _
  exact ⟨rfl, N, K, Gq5_0, Gq5_1, Gq5_2, Gq5_3⟩
def QSz0 (Z : State) (a : Addr) (h0 : Heap) (n0 : Nat) (v : Option Value) (h : Heap) (L : List Loc) : Prop := v = some (.int (0 : Int32)) ∧ Fr n0 L ∧ h = h0
theorem ef_Sz0 (m : MethodId) (a : Addr) : entryFrame m #[(.ref a)] 1 = mkF m 0 #[.val (.ref a)] [] := by first | (simp [entryFrame, mkF, argsToLocals, Value.category]; done) | rfl | (rfl)
set_option maxRecDepth 65536 in
set_option maxHeartbeats 40000000 in
theorem rmSz0 (l : Launch) (Z : State) (a0 : Array Value) (hw : ∀ d ∈ tables_1, d.before a0 Z = true) (ws : List Jvm.Cond) (a : Addr) (h0 : Heap) (n0 : Nat) (O : Old Z n0 h0) (F : Fld Z h0 a "java/util/ArrayList" "size" "I" (.int (0 : Int32))) :
    MetFree l (⟨"java/util/ArrayList", "size", "()I"⟩ : MethodName) (head1 (Jvm.Cond.code (⟨"java/util/ArrayList", "size", "()I"⟩ : MethodName) jdk_38_method_8_code 1 (some .int) :: ws) ({ frames := 0, cells := 0, slots := 0, locals := 0 } : Room)) (fun as_ U => as_ = #[(.ref a)] ∧ Z.Warmed39 U.vm ∧ U.heap = h0) (fun _ _ _ _ _ => True) (fun _ U oo_ U' => ∃ vv_ LL_, oo_ = .returned vv_ ∧ QSz0 Z a h0 n0 vv_ U'.heap LL_ ∧ FrameEnd U oo_ U' LL_ ({ frames := 0, cells := 0, slots := 0, locals := 0 } : Room).cells ({ frames := 0, cells := 0, slots := 0, locals := 0 } : Room).slots) := by
  refine MetFree.of_bodySF (plainFor_of_name pn_7) hisR ?_
  intro p e s m args below meth c s₁ Bd hml0 hP hK
  obtain ⟨rfl, hZ, hh⟩ := hP
  have hx := Bd.exec
  have hby := Bd.bytes
  have hml : c.maxLocals = 1 := hml0
  have hown : s.vm.findClass "java/util/ArrayList" = some m.cls := findClass_of_methodNamed Bd.named
  have hnm := (name_of_methodNamed Bd.named Bd.method).1
  have X0 : Stand p l e ({ frames := 0, cells := 0, slots := 0, locals := 0 } : Room) s m #[(.ref a)] below meth c s₁ [] 0 0 := Stand.of_body Bd
  have e0 : s₁.heap = h0 := by rw [← hh, Bd.state]; rfl
  have N := Fr.nil n0
  have K : Keep h0 h0 [] := Keep.refl h0 _
  refine own_go (B := s₁.setTop (mkF m 0 #[.val (.ref a)] [])) (fun t k => castTop (ef_Sz0 m a) k) ?_
  refine own_abs (fun P hfin => ?_)
  refine own_go (B := s₁.setTop (mkF m 1 #[.val (.ref a)] [(.ref a)])) (fun t k => ?_) ?_
  · show Steps p.tables e below (s₁.setTop (mkF m 0 #[.val (.ref a)] [])) _
    refine XS.aloadN X0.here hx rfl (hb hby d_jdk_38_method_8_0) rfl rfl ?_
    show Steps p.tables e below (s₁.setTop (mkF m 1 #[.val (.ref a)] [(.ref a)])) _
    exact k
  obtain ⟨T1, X1, e1, st1⟩ := getF X0 hx hZ hown (host := "") (Or.inl (hw _ (own_g (i := 125) rfl))) Via.refl e0 F (g := (mkF m 1 #[.val (.ref a)] [(.ref a)])) rfl rfl (hb hby d_jdk_38_method_8_1)
  refine own_go (B := T1.setTop (mkF m 4 #[.val (.ref a)] [(.int (0 : Int32))])) st1 ?_
  obtain ⟨fs, hr, hrun, hended, hW, hsame⟩ := X1.leave (v := some (.int (0 : Int32))) (fun h => by rw [Bd.returns] at h; cases h)
  refine ⟨_, _, retI X1 hx Bd.returns (hb hby d_jdk_38_method_8_4) hr, hfin _ _ ⟨hrun, hended, _, _, rfl, ?_, ⟨_, rfl⟩, hW, hsame.mono (by decide) (by decide)⟩⟩
  show QSz0 Z a h0 n0 _ T1.heap _
  exact ⟨rfl, N, e1⟩
def QSz1 (Z : State) (a : Addr) (h0 : Heap) (n0 : Nat) (v : Option Value) (h : Heap) (L : List Loc) : Prop := v = some (.int (1 : Int32)) ∧ Fr n0 L ∧ h = h0
theorem ef_Sz1 (m : MethodId) (a : Addr) : entryFrame m #[(.ref a)] 1 = mkF m 0 #[.val (.ref a)] [] := by first | (simp [entryFrame, mkF, argsToLocals, Value.category]; done) | rfl | (rfl)
set_option maxRecDepth 65536 in
set_option maxHeartbeats 40000000 in
theorem rmSz1 (l : Launch) (Z : State) (a0 : Array Value) (hw : ∀ d ∈ tables_1, d.before a0 Z = true) (ws : List Jvm.Cond) (a : Addr) (h0 : Heap) (n0 : Nat) (O : Old Z n0 h0) (F : Fld Z h0 a "java/util/ArrayList" "size" "I" (.int (1 : Int32))) :
    MetFree l (⟨"java/util/ArrayList", "size", "()I"⟩ : MethodName) (head1 (Jvm.Cond.code (⟨"java/util/ArrayList", "size", "()I"⟩ : MethodName) jdk_38_method_8_code 1 (some .int) :: ws) ({ frames := 0, cells := 0, slots := 0, locals := 0 } : Room)) (fun as_ U => as_ = #[(.ref a)] ∧ Z.Warmed39 U.vm ∧ U.heap = h0) (fun _ _ _ _ _ => True) (fun _ U oo_ U' => ∃ vv_ LL_, oo_ = .returned vv_ ∧ QSz1 Z a h0 n0 vv_ U'.heap LL_ ∧ FrameEnd U oo_ U' LL_ ({ frames := 0, cells := 0, slots := 0, locals := 0 } : Room).cells ({ frames := 0, cells := 0, slots := 0, locals := 0 } : Room).slots) := by
  refine MetFree.of_bodySF (plainFor_of_name pn_7) hisR ?_
  intro p e s m args below meth c s₁ Bd hml0 hP hK
  obtain ⟨rfl, hZ, hh⟩ := hP
  have hx := Bd.exec
  have hby := Bd.bytes
  have hml : c.maxLocals = 1 := hml0
  have hown : s.vm.findClass "java/util/ArrayList" = some m.cls := findClass_of_methodNamed Bd.named
  have hnm := (name_of_methodNamed Bd.named Bd.method).1
  have X0 : Stand p l e ({ frames := 0, cells := 0, slots := 0, locals := 0 } : Room) s m #[(.ref a)] below meth c s₁ [] 0 0 := Stand.of_body Bd
  have e0 : s₁.heap = h0 := by rw [← hh, Bd.state]; rfl
  have N := Fr.nil n0
  have K : Keep h0 h0 [] := Keep.refl h0 _
  refine own_go (B := s₁.setTop (mkF m 0 #[.val (.ref a)] [])) (fun t k => castTop (ef_Sz1 m a) k) ?_
  refine own_abs (fun P hfin => ?_)
  refine own_go (B := s₁.setTop (mkF m 1 #[.val (.ref a)] [(.ref a)])) (fun t k => ?_) ?_
  · show Steps p.tables e below (s₁.setTop (mkF m 0 #[.val (.ref a)] [])) _
    refine XS.aloadN X0.here hx rfl (hb hby d_jdk_38_method_8_0) rfl rfl ?_
    show Steps p.tables e below (s₁.setTop (mkF m 1 #[.val (.ref a)] [(.ref a)])) _
    exact k
  obtain ⟨T1, X1, e1, st1⟩ := getF X0 hx hZ hown (host := "") (Or.inl (hw _ (own_g (i := 125) rfl))) Via.refl e0 F (g := (mkF m 1 #[.val (.ref a)] [(.ref a)])) rfl rfl (hb hby d_jdk_38_method_8_1)
  refine own_go (B := T1.setTop (mkF m 4 #[.val (.ref a)] [(.int (1 : Int32))])) st1 ?_
  obtain ⟨fs, hr, hrun, hended, hW, hsame⟩ := X1.leave (v := some (.int (1 : Int32))) (fun h => by rw [Bd.returns] at h; cases h)
  refine ⟨_, _, retI X1 hx Bd.returns (hb hby d_jdk_38_method_8_4) hr, hfin _ _ ⟨hrun, hended, _, _, rfl, ?_, ⟨_, rfl⟩, hW, hsame.mono (by decide) (by decide)⟩⟩
  show QSz1 Z a h0 n0 _ T1.heap _
  exact ⟨rfl, N, e1⟩
def QSz2 (Z : State) (a : Addr) (h0 : Heap) (n0 : Nat) (v : Option Value) (h : Heap) (L : List Loc) : Prop := v = some (.int (2 : Int32)) ∧ Fr n0 L ∧ h = h0
theorem ef_Sz2 (m : MethodId) (a : Addr) : entryFrame m #[(.ref a)] 1 = mkF m 0 #[.val (.ref a)] [] := by first | (simp [entryFrame, mkF, argsToLocals, Value.category]; done) | rfl | (rfl)
set_option maxRecDepth 65536 in
set_option maxHeartbeats 40000000 in
theorem rmSz2 (l : Launch) (Z : State) (a0 : Array Value) (hw : ∀ d ∈ tables_1, d.before a0 Z = true) (ws : List Jvm.Cond) (a : Addr) (h0 : Heap) (n0 : Nat) (O : Old Z n0 h0) (F : Fld Z h0 a "java/util/ArrayList" "size" "I" (.int (2 : Int32))) :
    MetFree l (⟨"java/util/ArrayList", "size", "()I"⟩ : MethodName) (head1 (Jvm.Cond.code (⟨"java/util/ArrayList", "size", "()I"⟩ : MethodName) jdk_38_method_8_code 1 (some .int) :: ws) ({ frames := 0, cells := 0, slots := 0, locals := 0 } : Room)) (fun as_ U => as_ = #[(.ref a)] ∧ Z.Warmed39 U.vm ∧ U.heap = h0) (fun _ _ _ _ _ => True) (fun _ U oo_ U' => ∃ vv_ LL_, oo_ = .returned vv_ ∧ QSz2 Z a h0 n0 vv_ U'.heap LL_ ∧ FrameEnd U oo_ U' LL_ ({ frames := 0, cells := 0, slots := 0, locals := 0 } : Room).cells ({ frames := 0, cells := 0, slots := 0, locals := 0 } : Room).slots) := by
  refine MetFree.of_bodySF (plainFor_of_name pn_7) hisR ?_
  intro p e s m args below meth c s₁ Bd hml0 hP hK
  obtain ⟨rfl, hZ, hh⟩ := hP
  have hx := Bd.exec
  have hby := Bd.bytes
  have hml : c.maxLocals = 1 := hml0
  have hown : s.vm.findClass "java/util/ArrayList" = some m.cls := findClass_of_methodNamed Bd.named
  have hnm := (name_of_methodNamed Bd.named Bd.method).1
  have X0 : Stand p l e ({ frames := 0, cells := 0, slots := 0, locals := 0 } : Room) s m #[(.ref a)] below meth c s₁ [] 0 0 := Stand.of_body Bd
  have e0 : s₁.heap = h0 := by rw [← hh, Bd.state]; rfl
  have N := Fr.nil n0
  have K : Keep h0 h0 [] := Keep.refl h0 _
  refine own_go (B := s₁.setTop (mkF m 0 #[.val (.ref a)] [])) (fun t k => castTop (ef_Sz2 m a) k) ?_
  refine own_abs (fun P hfin => ?_)
  refine own_go (B := s₁.setTop (mkF m 1 #[.val (.ref a)] [(.ref a)])) (fun t k => ?_) ?_
  · show Steps p.tables e below (s₁.setTop (mkF m 0 #[.val (.ref a)] [])) _
    refine XS.aloadN X0.here hx rfl (hb hby d_jdk_38_method_8_0) rfl rfl ?_
    show Steps p.tables e below (s₁.setTop (mkF m 1 #[.val (.ref a)] [(.ref a)])) _
    exact k
  obtain ⟨T1, X1, e1, st1⟩ := getF X0 hx hZ hown (host := "") (Or.inl (hw _ (own_g (i := 125) rfl))) Via.refl e0 F (g := (mkF m 1 #[.val (.ref a)] [(.ref a)])) rfl rfl (hb hby d_jdk_38_method_8_1)
  refine own_go (B := T1.setTop (mkF m 4 #[.val (.ref a)] [(.int (2 : Int32))])) st1 ?_
  obtain ⟨fs, hr, hrun, hended, hW, hsame⟩ := X1.leave (v := some (.int (2 : Int32))) (fun h => by rw [Bd.returns] at h; cases h)
  refine ⟨_, _, retI X1 hx Bd.returns (hb hby d_jdk_38_method_8_4) hr, hfin _ _ ⟨hrun, hended, _, _, rfl, ?_, ⟨_, rfl⟩, hW, hsame.mono (by decide) (by decide)⟩⟩
  show QSz2 Z a h0 n0 _ T1.heap _
  exact ⟨rfl, N, e1⟩
def QPcI (Z : State) (p1 : Int32) (p2 : Int32) (h0 : Heap) (n0 : Nat) (v : Option Value) (h : Heap) (L : List Loc) : Prop := v = some (.int p1) ∧ Fr n0 L ∧ h = h0
theorem ef_PcI (m : MethodId) (p1 : Int32) (p2 : Int32) : entryFrame m #[(.int p1), (.int p2), .null] 3 = mkF m 0 #[.val (.int p1), .val (.int p2), .val .null] [] := by first | (simp [entryFrame, mkF, argsToLocals, Value.category]; done) | rfl | (rfl)
set_option maxRecDepth 65536 in
set_option maxHeartbeats 40000000 in
theorem rmPcI (l : Launch) (Z : State) (a0 : Array Value) (hw : ∀ d ∈ tables_1, d.before a0 Z = true) (ws : List Jvm.Cond) (p1 : Int32) (p2 : Int32) (h0 : Heap) (n0 : Nat) (O : Old Z n0 h0) (hq1 : ¬ p1 < (0 : Int32)) (hq2 : p1 < p2) :
    MetFree l (⟨"jdk/internal/util/Preconditions", "checkIndex", "(IILjava/util/function/BiFunction;)I"⟩ : MethodName) (head1 (Jvm.Cond.code (⟨"jdk/internal/util/Preconditions", "checkIndex", "(IILjava/util/function/BiFunction;)I"⟩ : MethodName) jdk_41_method_11_code 3 (some .int) :: ws) ({ frames := 0, cells := 0, slots := 0, locals := 0 } : Room)) (fun as_ U => as_ = #[(.int p1), (.int p2), .null] ∧ Z.Warmed39 U.vm ∧ U.heap = h0) (fun _ _ _ _ _ => True) (fun _ U oo_ U' => ∃ vv_ LL_, oo_ = .returned vv_ ∧ QPcI Z p1 p2 h0 n0 vv_ U'.heap LL_ ∧ FrameEnd U oo_ U' LL_ ({ frames := 0, cells := 0, slots := 0, locals := 0 } : Room).cells ({ frames := 0, cells := 0, slots := 0, locals := 0 } : Room).slots) := by
  refine MetFree.of_bodySF (plainFor_of_name pn_8) hisR ?_
  intro p e s m args below meth c s₁ Bd hml0 hP hK
  obtain ⟨rfl, hZ, hh⟩ := hP
  have hx := Bd.exec
  have hby := Bd.bytes
  have hml : c.maxLocals = 3 := hml0
  have hown : s.vm.findClass "jdk/internal/util/Preconditions" = some m.cls := findClass_of_methodNamed Bd.named
  have hnm := (name_of_methodNamed Bd.named Bd.method).1
  have X0 : Stand p l e ({ frames := 0, cells := 0, slots := 0, locals := 0 } : Room) s m #[(.int p1), (.int p2), .null] below meth c s₁ [] 0 0 := Stand.of_body Bd
  have e0 : s₁.heap = h0 := by rw [← hh, Bd.state]; rfl
  have N := Fr.nil n0
  have K : Keep h0 h0 [] := Keep.refl h0 _
  refine own_go (B := s₁.setTop (mkF m 0 #[.val (.int p1), .val (.int p2), .val .null] [])) (fun t k => castTop (ef_PcI m p1 p2) k) ?_
  refine own_abs (fun P hfin => ?_)
  refine own_go (B := s₁.setTop (mkF m 17 #[.val (.int p1), .val (.int p2), .val .null] [(.int p1)])) (fun t k => ?_) ?_
  · show Steps p.tables e below (s₁.setTop (mkF m 0 #[.val (.int p1), .val (.int p2), .val .null] [])) _
    refine XS.iloadN X0.here hx rfl (hb hby d_jdk_41_method_11_0) rfl ?_
    show Steps p.tables e below (s₁.setTop (mkF m 1 #[.val (.int p1), .val (.int p2), .val .null] [(.int p1)])) _
    refine XS.ifNo X0.here hx rfl (hb hby d_jdk_41_method_11_1) rfl ((if0 _ _).trans (flt hq1).1) ?_
    show Steps p.tables e below (s₁.setTop (mkF m 4 #[.val (.int p1), .val (.int p2), .val .null] [])) _
    refine XS.iloadN X0.here hx rfl (hb hby d_jdk_41_method_11_4) rfl ?_
    show Steps p.tables e below (s₁.setTop (mkF m 5 #[.val (.int p1), .val (.int p2), .val .null] [(.int p1)])) _
    refine XS.iloadN X0.here hx rfl (hb hby d_jdk_41_method_11_5) rfl ?_
    show Steps p.tables e below (s₁.setTop (mkF m 6 #[.val (.int p1), .val (.int p2), .val .null] [(.int p2), (.int p1)])) _
    refine XS.icmpYes X0.here hx rfl (pc0 := 6) (pc' := 16) rfl (hb hby d_jdk_41_method_11_6) rfl (tlt hq2).1 (by decide) (by decide) ?_
    show Steps p.tables e below (s₁.setTop (mkF m 16 #[.val (.int p1), .val (.int p2), .val .null] [])) _
    refine XS.iloadN X0.here hx rfl (hb hby d_jdk_41_method_11_16) rfl ?_
    show Steps p.tables e below (s₁.setTop (mkF m 17 #[.val (.int p1), .val (.int p2), .val .null] [(.int p1)])) _
    exact k
  obtain ⟨fs, hr, hrun, hended, hW, hsame⟩ := X0.leave (v := some (.int p1)) (fun h => by rw [Bd.returns] at h; cases h)
  refine ⟨_, _, retI X0 hx Bd.returns (hb hby d_jdk_41_method_11_17) hr, hfin _ _ ⟨hrun, hended, _, _, rfl, ?_, ⟨_, rfl⟩, hW, hsame.mono (by decide) (by decide)⟩⟩
  show QPcI Z p1 p2 h0 n0 _ s₁.heap _
  exact ⟨rfl, N, e0⟩
def QOcI (Z : State) (p1 : Int32) (p2 : Int32) (h0 : Heap) (n0 : Nat) (v : Option Value) (h : Heap) (L : List Loc) : Prop := v = some (.int p1) ∧ Fr n0 L ∧ h = h0
theorem ef_OcI (m : MethodId) (p1 : Int32) (p2 : Int32) : entryFrame m #[(.int p1), (.int p2)] 2 = mkF m 0 #[.val (.int p1), .val (.int p2)] [] := by first | (simp [entryFrame, mkF, argsToLocals, Value.category]; done) | rfl | (rfl)
set_option maxRecDepth 65536 in
set_option maxHeartbeats 40000000 in
theorem rmOcI (l : Launch) (Z : State) (a0 : Array Value) (hw : ∀ d ∈ tables_1, d.before a0 Z = true) (ws : List Jvm.Cond) (p1 : Int32) (p2 : Int32) (h0 : Heap) (n0 : Nat) (O : Old Z n0 h0) (hq1 : ¬ p1 < (0 : Int32)) (hq2 : p1 < p2) :
    MetFree l (⟨"java/util/Objects", "checkIndex", "(II)I"⟩ : MethodName) (head1 (Jvm.Cond.code (⟨"java/util/Objects", "checkIndex", "(II)I"⟩ : MethodName) jdk_31_method_17_code 2 (some .int) :: ws) ({ frames := 1, cells := 0, slots := 0, locals := 14 } : Room)) (fun as_ U => as_ = #[(.int p1), (.int p2)] ∧ Z.Warmed39 U.vm ∧ U.heap = h0) (fun _ _ _ _ _ => True) (fun _ U oo_ U' => ∃ vv_ LL_, oo_ = .returned vv_ ∧ QOcI Z p1 p2 h0 n0 vv_ U'.heap LL_ ∧ FrameEnd U oo_ U' LL_ ({ frames := 1, cells := 0, slots := 0, locals := 14 } : Room).cells ({ frames := 1, cells := 0, slots := 0, locals := 14 } : Room).slots) := by
  refine MetFree.of_bodySF (plainFor_of_name pn_9) hisR ?_
  intro p e s m args below meth c s₁ Bd hml0 hP hK
  obtain ⟨rfl, hZ, hh⟩ := hP
  have hx := Bd.exec
  have hby := Bd.bytes
  have hml : c.maxLocals = 2 := hml0
  have hown : s.vm.findClass "java/util/Objects" = some m.cls := findClass_of_methodNamed Bd.named
  have hnm := (name_of_methodNamed Bd.named Bd.method).1
  have X0 : Stand p l e ({ frames := 1, cells := 0, slots := 0, locals := 14 } : Room) s m #[(.int p1), (.int p2)] below meth c s₁ [] 0 0 := Stand.of_body Bd
  have e0 : s₁.heap = h0 := by rw [← hh, Bd.state]; rfl
  have N := Fr.nil n0
  have K : Keep h0 h0 [] := Keep.refl h0 _
  refine own_go (B := s₁.setTop (mkF m 0 #[.val (.int p1), .val (.int p2)] [])) (fun t k => castTop (ef_OcI m p1 p2) k) ?_
  refine own_abs (fun P hfin => ?_)
  refine own_go (B := s₁.setTop (mkF m 3 #[.val (.int p1), .val (.int p2)] [.null, (.int p2), (.int p1)])) (fun t k => ?_) ?_
  · show Steps p.tables e below (s₁.setTop (mkF m 0 #[.val (.int p1), .val (.int p2)] [])) _
    refine XS.iloadN X0.here hx rfl (hb hby d_jdk_31_method_17_0) rfl ?_
    show Steps p.tables e below (s₁.setTop (mkF m 1 #[.val (.int p1), .val (.int p2)] [(.int p1)])) _
    refine XS.iloadN X0.here hx rfl (hb hby d_jdk_31_method_17_1) rfl ?_
    show Steps p.tables e below (s₁.setTop (mkF m 2 #[.val (.int p1), .val (.int p2)] [(.int p2), (.int p1)])) _
    refine XS.aconstNull X0.here hx rfl (hb hby d_jdk_31_method_17_2) ?_
    show Steps p.tables e below (s₁.setTop (mkF m 3 #[.val (.int p1), .val (.int p2)] [.null, (.int p2), (.int p1)])) _
    exact k
  -- pc 3: jdk/internal/util/Preconditions.checkIndex
  obtain ⟨_, _, ⟨T1, L1, k1, n1⟩, -, X1, ⟨Lc1, hQ1, l1, y1, z1⟩, st1⟩ := Jvm.LawKit.callS X0 hx (y := (⟨"jdk/internal/util/Preconditions", "checkIndex", "(IILjava/util/function/BiFunction;)I"⟩ : MethodName)) hown (mvT hZ (hw _ (own_g (i := 194) rfl))) (mvT hZ (hw _ (own_g (i := 195) rfl))) (mvT hZ (hw _ (own_g (i := 196) rfl))) (mvT hZ (hw _ (own_g (i := 197) rfl))) (by decide) (backOf (W := 0) (rmPcI l Z a0 hw [] p1 p2 h0 n0 O hq1 hq2) hZ (hw _ (own_g (i := 197) rfl)) (hw _ (own_g (i := 196) rfl)) (by decide) (by decide)) (g := (mkF m 3 #[.val (.int p1), .val (.int p2)] [.null, (.int p2), (.int p1)])) rfl (by rw [hml]; rfl) (argsL := [(.int p1), (.int p2), .null]) (rest := []) (lenOf pd_11 rfl) rfl (by show 2 * 0 + _ ≤ _; exact Nat.le_of_eq rfl) (hb hby d_jdk_31_method_17_3) (fun _ hWm => ⟨rfl, e0, (by decide : 0 + 0 ≤ _), (by decide : 0 + 0 ≤ _)⟩)
  dsimp only [Pt.U, Pt.locs, Pt.cells, Pt.slots] at X1 l1 y1 z1 st1 hQ1
  subst l1 y1 z1
  obtain ⟨rfl, Nq1, Kq1⟩ := hQ1
  replace N := Fr.app N Nq1
  refine own_go (B := T1.setTop (mkF m 6 #[.val (.int p1), .val (.int p2)] [(.int p1)])) st1 ?_
  obtain ⟨fs, hr, hrun, hended, hW, hsame⟩ := X1.leave (v := some (.int p1)) (fun h => by rw [Bd.returns] at h; cases h)
  refine ⟨_, _, retI X1 hx Bd.returns (hb hby d_jdk_31_method_17_6) hr, hfin _ _ ⟨hrun, hended, _, _, rfl, ?_, ⟨_, rfl⟩, hW, hsame.mono (by decide) (by decide)⟩⟩
  show QOcI Z p1 p2 h0 n0 _ T1.heap _
  exact ⟨rfl, N, Kq1⟩
def QEl10 (Z : State) (li : Addr) (da : Addr) (kda : ClassId) (t0 : Addr) (h0 : Heap) (n0 : Nat) (v : Option Value) (h : Heap) (L : List Loc) : Prop := v = some (.ref t0) ∧ Fr n0 L ∧ h = h0
theorem ef_El10 (m : MethodId) (li : Addr) : entryFrame m #[(.ref li), (.int (0 : Int32))] 2 = mkF m 0 #[.val (.ref li), .val (.int (0 : Int32))] [] := by first | (simp [entryFrame, mkF, argsToLocals, Value.category]; done) | rfl | (rfl)
set_option maxRecDepth 65536 in
set_option maxHeartbeats 40000000 in
theorem rmEl10 (l : Launch) (Z : State) (a0 : Array Value) (hw : ∀ d ∈ tables_1, d.before a0 Z = true) (ws : List Jvm.Cond) (li : Addr) (da : Addr) (kda : ClassId) (t0 : Addr) (h0 : Heap) (n0 : Nat) (O : Old Z n0 h0) (F2 : Fld Z h0 li "java/util/ArrayList" "elementData" "[Ljava/lang/Object;" (.ref da)) (V1 : Arv Z h0 da kda (.object "java/lang/Object") (10 : Int32) [(.ref t0), .null, .null, .null, .null, .null, .null, .null, .null, .null] .null) :
    MetFree l (⟨"java/util/ArrayList", "elementData", "(I)Ljava/lang/Object;"⟩ : MethodName) (head1 (Jvm.Cond.code (⟨"java/util/ArrayList", "elementData", "(I)Ljava/lang/Object;"⟩ : MethodName) jdk_38_method_18_code 2 (some (.object "java/lang/Object")) :: ws) ({ frames := 0, cells := 0, slots := 0, locals := 0 } : Room)) (fun as_ U => as_ = #[(.ref li), (.int (0 : Int32))] ∧ Z.Warmed39 U.vm ∧ U.heap = h0) (fun _ _ _ _ _ => True) (fun _ U oo_ U' => ∃ vv_ LL_, oo_ = .returned vv_ ∧ QEl10 Z li da kda t0 h0 n0 vv_ U'.heap LL_ ∧ FrameEnd U oo_ U' LL_ ({ frames := 0, cells := 0, slots := 0, locals := 0 } : Room).cells ({ frames := 0, cells := 0, slots := 0, locals := 0 } : Room).slots) := by
  refine MetFree.of_bodySF (plainFor_of_name pn_7) hisR ?_
  intro p e s m args below meth c s₁ Bd hml0 hP hK
  obtain ⟨rfl, hZ, hh⟩ := hP
  have hx := Bd.exec
  have hby := Bd.bytes
  have hml : c.maxLocals = 2 := hml0
  have hown : s.vm.findClass "java/util/ArrayList" = some m.cls := findClass_of_methodNamed Bd.named
  have hnm := (name_of_methodNamed Bd.named Bd.method).1
  have X0 : Stand p l e ({ frames := 0, cells := 0, slots := 0, locals := 0 } : Room) s m #[(.ref li), (.int (0 : Int32))] below meth c s₁ [] 0 0 := Stand.of_body Bd
  have e0 : s₁.heap = h0 := by rw [← hh, Bd.state]; rfl
  have N := Fr.nil n0
  have K : Keep h0 h0 [] := Keep.refl h0 _
  refine own_go (B := s₁.setTop (mkF m 0 #[.val (.ref li), .val (.int (0 : Int32))] [])) (fun t k => castTop (ef_El10 m li) k) ?_
  refine own_abs (fun P hfin => ?_)
  refine own_go (B := s₁.setTop (mkF m 1 #[.val (.ref li), .val (.int (0 : Int32))] [(.ref li)])) (fun t k => ?_) ?_
  · show Steps p.tables e below (s₁.setTop (mkF m 0 #[.val (.ref li), .val (.int (0 : Int32))] [])) _
    refine XS.aloadN X0.here hx rfl (hb hby d_jdk_38_method_18_0) rfl rfl ?_
    show Steps p.tables e below (s₁.setTop (mkF m 1 #[.val (.ref li), .val (.int (0 : Int32))] [(.ref li)])) _
    exact k
  obtain ⟨T1, X1, e1, st1⟩ := getF X0 hx hZ hown (host := "") (Or.inl (hw _ (own_g (i := 80) rfl))) Via.refl e0 F2 (g := (mkF m 1 #[.val (.ref li), .val (.int (0 : Int32))] [(.ref li)])) rfl rfl (hb hby d_jdk_38_method_18_1)
  refine own_go (B := T1.setTop (mkF m 4 #[.val (.ref li), .val (.int (0 : Int32))] [(.ref da)])) st1 ?_
  refine own_go (B := T1.setTop (mkF m 5 #[.val (.ref li), .val (.int (0 : Int32))] [(.int (0 : Int32)), (.ref da)])) (fun t k => ?_) ?_
  · show Steps p.tables e below (T1.setTop (mkF m 4 #[.val (.ref li), .val (.int (0 : Int32))] [(.ref da)])) _
    refine XS.iloadN X1.here hx rfl (hb hby d_jdk_38_method_18_4) rfl ?_
    show Steps p.tables e below (T1.setTop (mkF m 5 #[.val (.ref li), .val (.int (0 : Int32))] [(.int (0 : Int32)), (.ref da)])) _
    exact k
  obtain ⟨cl2, Ar2, q2, Sz2, Nn2, Hs2, Gt2⟩ := V1
  have hin2 : ¬ ((0 : Int32) < 0 ∨ cl2.slots.size ≤ ((0 : Int32)).toNatClampNeg) := inb_of Sz2 ⟨by decide, by decide⟩
  have hat2 : cl2.slots[((0 : Int32)).toNatClampNeg]? = some (.ref t0) := Hs2.at hin2 rfl
  have st2 := X1.aaload hx (j := (0 : Int32)) (v := (.ref t0)) (by rw [e1]; exact Ar2.1) (State.isArrayOf_alike hZ.alike Ar2.2.1) rfl Ar2.2.2 hin2 hat2 (g := (mkF m 5 #[.val (.ref li), .val (.int (0 : Int32))] [(.int (0 : Int32)), (.ref da)])) rfl rfl (hb hby d_jdk_38_method_18_5)
  have V2 : Arv Z h0 da kda (.object "java/lang/Object") (10 : Int32) [(.ref t0), .null, .null, .null, .null, .null, .null, .null, .null, .null] .null := ⟨cl2, Ar2, q2, Sz2, Nn2, Hs2, Gt2⟩
  refine own_go (B := T1.setTop (mkF m 6 #[.val (.ref li), .val (.int (0 : Int32))] [(.ref t0)])) st2 ?_
  obtain ⟨fs, hr, hrun, hended, hW, hsame⟩ := X1.leave (v := some (.ref t0)) (fun h => by rw [Bd.returns] at h; cases h)
  refine ⟨_, _, own_retA X1 hx rfl Bd.returns rfl (hb hby d_jdk_38_method_18_6) hr, hfin _ _ ⟨hrun, hended, _, _, rfl, ?_, ⟨_, rfl⟩, hW, hsame.mono (by decide) (by decide)⟩⟩
  show QEl10 Z li da kda t0 h0 n0 _ T1.heap _
  exact ⟨rfl, N, e1⟩
def QGt10 (Z : State) (li : Addr) (da : Addr) (kda : ClassId) (t0 : Addr) (h0 : Heap) (n0 : Nat) (v : Option Value) (h : Heap) (L : List Loc) : Prop := v = some (.ref t0) ∧ Fr n0 L ∧ h = h0
theorem ef_Gt10 (m : MethodId) (li : Addr) : entryFrame m #[(.ref li), (.int (0 : Int32))] 2 = mkF m 0 #[.val (.ref li), .val (.int (0 : Int32))] [] := by first | (simp [entryFrame, mkF, argsToLocals, Value.category]; done) | rfl | (rfl)
set_option maxRecDepth 65536 in
set_option maxHeartbeats 40000000 in
theorem rmGt10 (l : Launch) (Z : State) (a0 : Array Value) (hw : ∀ d ∈ tables_1, d.before a0 Z = true) (ws : List Jvm.Cond) (li : Addr) (da : Addr) (kda : ClassId) (t0 : Addr) (h0 : Heap) (n0 : Nat) (O : Old Z n0 h0) (E : Exa Z h0 li "java/util/ArrayList") (F3 : Fld Z h0 li "java/util/ArrayList" "size" "I" (.int (1 : Int32))) (F2 : Fld Z h0 li "java/util/ArrayList" "elementData" "[Ljava/lang/Object;" (.ref da)) (V1 : Arv Z h0 da kda (.object "java/lang/Object") (10 : Int32) [(.ref t0), .null, .null, .null, .null, .null, .null, .null, .null, .null] .null) :
    MetFree l (⟨"java/util/ArrayList", "get", "(I)Ljava/lang/Object;"⟩ : MethodName) (head1 (Jvm.Cond.code (⟨"java/util/ArrayList", "get", "(I)Ljava/lang/Object;"⟩ : MethodName) jdk_38_method_20_code 2 (some (.object "java/lang/Object")) :: ws) ({ frames := 2, cells := 0, slots := 0, locals := 27 } : Room)) (fun as_ U => as_ = #[(.ref li), (.int (0 : Int32))] ∧ Z.Warmed39 U.vm ∧ U.heap = h0) (fun _ _ _ _ _ => True) (fun _ U oo_ U' => ∃ vv_ LL_, oo_ = .returned vv_ ∧ QGt10 Z li da kda t0 h0 n0 vv_ U'.heap LL_ ∧ FrameEnd U oo_ U' LL_ ({ frames := 2, cells := 0, slots := 0, locals := 27 } : Room).cells ({ frames := 2, cells := 0, slots := 0, locals := 27 } : Room).slots) := by
  refine MetFree.of_bodySF (plainFor_of_name pn_7) hisR ?_
  intro p e s m args below meth c s₁ Bd hml0 hP hK
  obtain ⟨rfl, hZ, hh⟩ := hP
  have hx := Bd.exec
  have hby := Bd.bytes
  have hml : c.maxLocals = 2 := hml0
  have hown : s.vm.findClass "java/util/ArrayList" = some m.cls := findClass_of_methodNamed Bd.named
  have hnm := (name_of_methodNamed Bd.named Bd.method).1
  have X0 : Stand p l e ({ frames := 2, cells := 0, slots := 0, locals := 27 } : Room) s m #[(.ref li), (.int (0 : Int32))] below meth c s₁ [] 0 0 := Stand.of_body Bd
  have e0 : s₁.heap = h0 := by rw [← hh, Bd.state]; rfl
  have N := Fr.nil n0
  have K : Keep h0 h0 [] := Keep.refl h0 _
  refine own_go (B := s₁.setTop (mkF m 0 #[.val (.ref li), .val (.int (0 : Int32))] [])) (fun t k => castTop (ef_Gt10 m li) k) ?_
  refine own_abs (fun P hfin => ?_)
  refine own_go (B := s₁.setTop (mkF m 2 #[.val (.ref li), .val (.int (0 : Int32))] [(.ref li), (.int (0 : Int32))])) (fun t k => ?_) ?_
  · show Steps p.tables e below (s₁.setTop (mkF m 0 #[.val (.ref li), .val (.int (0 : Int32))] [])) _
    refine XS.iloadN X0.here hx rfl (hb hby d_jdk_38_method_20_0) rfl ?_
    show Steps p.tables e below (s₁.setTop (mkF m 1 #[.val (.ref li), .val (.int (0 : Int32))] [(.int (0 : Int32))])) _
    refine XS.aloadN X0.here hx rfl (hb hby d_jdk_38_method_20_1) rfl rfl ?_
    show Steps p.tables e below (s₁.setTop (mkF m 2 #[.val (.ref li), .val (.int (0 : Int32))] [(.ref li), (.int (0 : Int32))])) _
    exact k
  obtain ⟨T1, X1, e1, st1⟩ := getF X0 hx hZ hown (host := "") (Or.inl (hw _ (own_g (i := 125) rfl))) Via.refl e0 F3 (g := (mkF m 2 #[.val (.ref li), .val (.int (0 : Int32))] [(.ref li), (.int (0 : Int32))])) rfl rfl (hb hby d_jdk_38_method_20_2)
  refine own_go (B := T1.setTop (mkF m 5 #[.val (.ref li), .val (.int (0 : Int32))] [(.int (1 : Int32)), (.int (0 : Int32))])) st1 ?_
  -- pc 5: java/util/Objects.checkIndex
  obtain ⟨_, _, ⟨T2, L2, k2, n2⟩, -, X2, ⟨Lc2, hQ2, l2, y2, z2⟩, st2⟩ := Jvm.LawKit.callS X1 hx (y := (⟨"java/util/Objects", "checkIndex", "(II)I"⟩ : MethodName)) hown (mvT hZ (hw _ (own_g (i := 190) rfl))) (mvT hZ (hw _ (own_g (i := 191) rfl))) (mvT hZ (hw _ (own_g (i := 192) rfl))) (mvT hZ (hw _ (own_g (i := 193) rfl))) (by decide) (backOf (W := 0) (rmOcI l Z a0 hw [] (0 : Int32) (1 : Int32) h0 n0 O (by decide) (by decide)) hZ (hw _ (own_g (i := 193) rfl)) (hw _ (own_g (i := 192) rfl)) (by decide) (by decide)) (g := (mkF m 5 #[.val (.ref li), .val (.int (0 : Int32))] [(.int (1 : Int32)), (.int (0 : Int32))])) rfl (by rw [hml]; rfl) (argsL := [(.int (0 : Int32)), (.int (1 : Int32))]) (rest := []) (lenOf pd_7 rfl) rfl (by show 2 * 0 + _ ≤ _; exact Nat.le_of_eq rfl) (hb hby d_jdk_38_method_20_5) (fun _ hWm => ⟨rfl, e1, (by decide : 0 + 0 ≤ _), (by decide : 0 + 0 ≤ _)⟩)
  dsimp only [Pt.U, Pt.locs, Pt.cells, Pt.slots] at X2 l2 y2 z2 st2 hQ2
  subst l2 y2 z2
  obtain ⟨rfl, Nq2, Kq2⟩ := hQ2
  replace N := Fr.app N Nq2
  refine own_go (B := T2.setTop (mkF m 8 #[.val (.ref li), .val (.int (0 : Int32))] [(.int (0 : Int32))])) st2 ?_
  refine own_go (B := T2.setTop (mkF m 11 #[.val (.ref li), .val (.int (0 : Int32))] [(.int (0 : Int32)), (.ref li)])) (fun t k => ?_) ?_
  · show Steps p.tables e below (T2.setTop (mkF m 8 #[.val (.ref li), .val (.int (0 : Int32))] [(.int (0 : Int32))])) _
    refine XS.pop X2.here hx rfl (hb hby d_jdk_38_method_20_8) rfl rfl ?_
    show Steps p.tables e below (T2.setTop (mkF m 9 #[.val (.ref li), .val (.int (0 : Int32))] [])) _
    refine XS.aloadN X2.here hx rfl (hb hby d_jdk_38_method_20_9) rfl rfl ?_
    show Steps p.tables e below (T2.setTop (mkF m 10 #[.val (.ref li), .val (.int (0 : Int32))] [(.ref li)])) _
    refine XS.iloadN X2.here hx rfl (hb hby d_jdk_38_method_20_10) rfl ?_
    show Steps p.tables e below (T2.setTop (mkF m 11 #[.val (.ref li), .val (.int (0 : Int32))] [(.int (0 : Int32)), (.ref li)])) _
    exact k
  -- pc 11: java/util/ArrayList.elementData
  obtain ⟨cq3, kq3, q3a, q3b, q3c⟩ := isOf hZ Kq2 E
  obtain ⟨_, _, ⟨T3, L3, k3, n3⟩, -, X3, ⟨Lc3, hQ3, l3, y3, z3⟩, st3⟩ := X2.virtualBack hx (y := (⟨"java/util/ArrayList", "elementData", "(I)Ljava/lang/Object;"⟩ : MethodName)) (z := (⟨"java/util/ArrayList", "elementData", "(I)Ljava/lang/Object;"⟩ : MethodName)) hown (mvT hZ (hw _ (own_g (i := 198) rfl))) (mvT hZ (hw _ (own_g (i := 199) rfl))) (notFace_of_selects (args := #[]) (mvT hZ (hw _ (own_g (i := 201) rfl)))) (mvT hZ (hw _ (own_g (i := 201) rfl))) (mvT hZ (hw _ (own_g (i := 200) rfl))) (by decide) (backOf (W := 0) (rmEl10 l Z a0 hw [] li da kda t0 h0 n0 O F2 V1) hZ (hw _ (own_g (i := 202) rfl)) (hw _ (own_g (i := 60) rfl)) (by decide) (by decide)) q3a q3c (g := (mkF m 11 #[.val (.ref li), .val (.int (0 : Int32))] [(.int (0 : Int32)), (.ref li)])) rfl (by rw [hml]; rfl) (Steps.refl _) (argsL := [(.int (0 : Int32))]) (rest := []) (lenOf pd_12 rfl) rfl (by show 2 * 0 + _ ≤ _; exact Nat.le_of_eq rfl) (hb hby d_jdk_38_method_20_11) (fun _ hWm => ⟨rfl, Kq2, (by decide : 0 + 0 ≤ _), (by decide : 0 + 0 ≤ _)⟩)
  dsimp only [Pt.U, Pt.locs, Pt.cells, Pt.slots] at X3 l3 y3 z3 st3 hQ3
  subst l3 y3 z3
  obtain ⟨rfl, Nq3, Kq3⟩ := hQ3
  replace N := Fr.app N Nq3
  refine own_go (B := T3.setTop (mkF m 14 #[.val (.ref li), .val (.int (0 : Int32))] [(.ref t0)])) (fun t k => st3.trans k) ?_
  obtain ⟨fs, hr, hrun, hended, hW, hsame⟩ := X3.leave (v := some (.ref t0)) (fun h => by rw [Bd.returns] at h; cases h)
  refine ⟨_, _, own_retA X3 hx rfl Bd.returns rfl (hb hby d_jdk_38_method_20_14) hr, hfin _ _ ⟨hrun, hended, _, _, rfl, ?_, ⟨_, rfl⟩, hW, hsame.mono (by decide) (by decide)⟩⟩
  show QGt10 Z li da kda t0 h0 n0 _ T3.heap _
  exact ⟨rfl, N, Kq3⟩
def QEl20 (Z : State) (li : Addr) (da : Addr) (kda : ClassId) (t0 : Addr) (t1 : Addr) (h0 : Heap) (n0 : Nat) (v : Option Value) (h : Heap) (L : List Loc) : Prop := v = some (.ref t0) ∧ Fr n0 L ∧ h = h0
theorem ef_El20 (m : MethodId) (li : Addr) : entryFrame m #[(.ref li), (.int (0 : Int32))] 2 = mkF m 0 #[.val (.ref li), .val (.int (0 : Int32))] [] := by first | (simp [entryFrame, mkF, argsToLocals, Value.category]; done) | rfl | (rfl)
set_option maxRecDepth 65536 in
set_option maxHeartbeats 40000000 in
theorem rmEl20 (l : Launch) (Z : State) (a0 : Array Value) (hw : ∀ d ∈ tables_1, d.before a0 Z = true) (ws : List Jvm.Cond) (li : Addr) (da : Addr) (kda : ClassId) (t0 : Addr) (t1 : Addr) (h0 : Heap) (n0 : Nat) (O : Old Z n0 h0) (F2 : Fld Z h0 li "java/util/ArrayList" "elementData" "[Ljava/lang/Object;" (.ref da)) (V1 : Arv Z h0 da kda (.object "java/lang/Object") (10 : Int32) [(.ref t0), (.ref t1), .null, .null, .null, .null, .null, .null, .null, .null] .null) :
    MetFree l (⟨"java/util/ArrayList", "elementData", "(I)Ljava/lang/Object;"⟩ : MethodName) (head1 (Jvm.Cond.code (⟨"java/util/ArrayList", "elementData", "(I)Ljava/lang/Object;"⟩ : MethodName) jdk_38_method_18_code 2 (some (.object "java/lang/Object")) :: ws) ({ frames := 0, cells := 0, slots := 0, locals := 0 } : Room)) (fun as_ U => as_ = #[(.ref li), (.int (0 : Int32))] ∧ Z.Warmed39 U.vm ∧ U.heap = h0) (fun _ _ _ _ _ => True) (fun _ U oo_ U' => ∃ vv_ LL_, oo_ = .returned vv_ ∧ QEl20 Z li da kda t0 t1 h0 n0 vv_ U'.heap LL_ ∧ FrameEnd U oo_ U' LL_ ({ frames := 0, cells := 0, slots := 0, locals := 0 } : Room).cells ({ frames := 0, cells := 0, slots := 0, locals := 0 } : Room).slots) := by
  refine MetFree.of_bodySF (plainFor_of_name pn_7) hisR ?_
  intro p e s m args below meth c s₁ Bd hml0 hP hK
  obtain ⟨rfl, hZ, hh⟩ := hP
  have hx := Bd.exec
  have hby := Bd.bytes
  have hml : c.maxLocals = 2 := hml0
  have hown : s.vm.findClass "java/util/ArrayList" = some m.cls := findClass_of_methodNamed Bd.named
  have hnm := (name_of_methodNamed Bd.named Bd.method).1
  have X0 : Stand p l e ({ frames := 0, cells := 0, slots := 0, locals := 0 } : Room) s m #[(.ref li), (.int (0 : Int32))] below meth c s₁ [] 0 0 := Stand.of_body Bd
  have e0 : s₁.heap = h0 := by rw [← hh, Bd.state]; rfl
  have N := Fr.nil n0
  have K : Keep h0 h0 [] := Keep.refl h0 _
  refine own_go (B := s₁.setTop (mkF m 0 #[.val (.ref li), .val (.int (0 : Int32))] [])) (fun t k => castTop (ef_El20 m li) k) ?_
  refine own_abs (fun P hfin => ?_)
  refine own_go (B := s₁.setTop (mkF m 1 #[.val (.ref li), .val (.int (0 : Int32))] [(.ref li)])) (fun t k => ?_) ?_
  · show Steps p.tables e below (s₁.setTop (mkF m 0 #[.val (.ref li), .val (.int (0 : Int32))] [])) _
    refine XS.aloadN X0.here hx rfl (hb hby d_jdk_38_method_18_0) rfl rfl ?_
    show Steps p.tables e below (s₁.setTop (mkF m 1 #[.val (.ref li), .val (.int (0 : Int32))] [(.ref li)])) _
    exact k
  obtain ⟨T1, X1, e1, st1⟩ := getF X0 hx hZ hown (host := "") (Or.inl (hw _ (own_g (i := 80) rfl))) Via.refl e0 F2 (g := (mkF m 1 #[.val (.ref li), .val (.int (0 : Int32))] [(.ref li)])) rfl rfl (hb hby d_jdk_38_method_18_1)
  refine own_go (B := T1.setTop (mkF m 4 #[.val (.ref li), .val (.int (0 : Int32))] [(.ref da)])) st1 ?_
  refine own_go (B := T1.setTop (mkF m 5 #[.val (.ref li), .val (.int (0 : Int32))] [(.int (0 : Int32)), (.ref da)])) (fun t k => ?_) ?_
  · show Steps p.tables e below (T1.setTop (mkF m 4 #[.val (.ref li), .val (.int (0 : Int32))] [(.ref da)])) _
    refine XS.iloadN X1.here hx rfl (hb hby d_jdk_38_method_18_4) rfl ?_
    show Steps p.tables e below (T1.setTop (mkF m 5 #[.val (.ref li), .val (.int (0 : Int32))] [(.int (0 : Int32)), (.ref da)])) _
    exact k
  obtain ⟨cl2, Ar2, q2, Sz2, Nn2, Hs2, Gt2⟩ := V1
  have hin2 : ¬ ((0 : Int32) < 0 ∨ cl2.slots.size ≤ ((0 : Int32)).toNatClampNeg) := inb_of Sz2 ⟨by decide, by decide⟩
  have hat2 : cl2.slots[((0 : Int32)).toNatClampNeg]? = some (.ref t0) := Hs2.at hin2 rfl
  have st2 := X1.aaload hx (j := (0 : Int32)) (v := (.ref t0)) (by rw [e1]; exact Ar2.1) (State.isArrayOf_alike hZ.alike Ar2.2.1) rfl Ar2.2.2 hin2 hat2 (g := (mkF m 5 #[.val (.ref li), .val (.int (0 : Int32))] [(.int (0 : Int32)), (.ref da)])) rfl rfl (hb hby d_jdk_38_method_18_5)
  have V2 : Arv Z h0 da kda (.object "java/lang/Object") (10 : Int32) [(.ref t0), (.ref t1), .null, .null, .null, .null, .null, .null, .null, .null] .null := ⟨cl2, Ar2, q2, Sz2, Nn2, Hs2, Gt2⟩
  refine own_go (B := T1.setTop (mkF m 6 #[.val (.ref li), .val (.int (0 : Int32))] [(.ref t0)])) st2 ?_
  obtain ⟨fs, hr, hrun, hended, hW, hsame⟩ := X1.leave (v := some (.ref t0)) (fun h => by rw [Bd.returns] at h; cases h)
  refine ⟨_, _, own_retA X1 hx rfl Bd.returns rfl (hb hby d_jdk_38_method_18_6) hr, hfin _ _ ⟨hrun, hended, _, _, rfl, ?_, ⟨_, rfl⟩, hW, hsame.mono (by decide) (by decide)⟩⟩
  show QEl20 Z li da kda t0 t1 h0 n0 _ T1.heap _
  exact ⟨rfl, N, e1⟩
def QGt20 (Z : State) (li : Addr) (da : Addr) (kda : ClassId) (t0 : Addr) (t1 : Addr) (h0 : Heap) (n0 : Nat) (v : Option Value) (h : Heap) (L : List Loc) : Prop := v = some (.ref t0) ∧ Fr n0 L ∧ h = h0
theorem ef_Gt20 (m : MethodId) (li : Addr) : entryFrame m #[(.ref li), (.int (0 : Int32))] 2 = mkF m 0 #[.val (.ref li), .val (.int (0 : Int32))] [] := by first | (simp [entryFrame, mkF, argsToLocals, Value.category]; done) | rfl | (rfl)
set_option maxRecDepth 65536 in
set_option maxHeartbeats 40000000 in
theorem rmGt20 (l : Launch) (Z : State) (a0 : Array Value) (hw : ∀ d ∈ tables_1, d.before a0 Z = true) (ws : List Jvm.Cond) (li : Addr) (da : Addr) (kda : ClassId) (t0 : Addr) (t1 : Addr) (h0 : Heap) (n0 : Nat) (O : Old Z n0 h0) (E : Exa Z h0 li "java/util/ArrayList") (F3 : Fld Z h0 li "java/util/ArrayList" "size" "I" (.int (2 : Int32))) (F2 : Fld Z h0 li "java/util/ArrayList" "elementData" "[Ljava/lang/Object;" (.ref da)) (V1 : Arv Z h0 da kda (.object "java/lang/Object") (10 : Int32) [(.ref t0), (.ref t1), .null, .null, .null, .null, .null, .null, .null, .null] .null) :
    MetFree l (⟨"java/util/ArrayList", "get", "(I)Ljava/lang/Object;"⟩ : MethodName) (head1 (Jvm.Cond.code (⟨"java/util/ArrayList", "get", "(I)Ljava/lang/Object;"⟩ : MethodName) jdk_38_method_20_code 2 (some (.object "java/lang/Object")) :: ws) ({ frames := 2, cells := 0, slots := 0, locals := 27 } : Room)) (fun as_ U => as_ = #[(.ref li), (.int (0 : Int32))] ∧ Z.Warmed39 U.vm ∧ U.heap = h0) (fun _ _ _ _ _ => True) (fun _ U oo_ U' => ∃ vv_ LL_, oo_ = .returned vv_ ∧ QGt20 Z li da kda t0 t1 h0 n0 vv_ U'.heap LL_ ∧ FrameEnd U oo_ U' LL_ ({ frames := 2, cells := 0, slots := 0, locals := 27 } : Room).cells ({ frames := 2, cells := 0, slots := 0, locals := 27 } : Room).slots) := by
  refine MetFree.of_bodySF (plainFor_of_name pn_7) hisR ?_
  intro p e s m args below meth c s₁ Bd hml0 hP hK
  obtain ⟨rfl, hZ, hh⟩ := hP
  have hx := Bd.exec
  have hby := Bd.bytes
  have hml : c.maxLocals = 2 := hml0
  have hown : s.vm.findClass "java/util/ArrayList" = some m.cls := findClass_of_methodNamed Bd.named
  have hnm := (name_of_methodNamed Bd.named Bd.method).1
  have X0 : Stand p l e ({ frames := 2, cells := 0, slots := 0, locals := 27 } : Room) s m #[(.ref li), (.int (0 : Int32))] below meth c s₁ [] 0 0 := Stand.of_body Bd
  have e0 : s₁.heap = h0 := by rw [← hh, Bd.state]; rfl
  have N := Fr.nil n0
  have K : Keep h0 h0 [] := Keep.refl h0 _
  refine own_go (B := s₁.setTop (mkF m 0 #[.val (.ref li), .val (.int (0 : Int32))] [])) (fun t k => castTop (ef_Gt20 m li) k) ?_
  refine own_abs (fun P hfin => ?_)
  refine own_go (B := s₁.setTop (mkF m 2 #[.val (.ref li), .val (.int (0 : Int32))] [(.ref li), (.int (0 : Int32))])) (fun t k => ?_) ?_
  · show Steps p.tables e below (s₁.setTop (mkF m 0 #[.val (.ref li), .val (.int (0 : Int32))] [])) _
    refine XS.iloadN X0.here hx rfl (hb hby d_jdk_38_method_20_0) rfl ?_
    show Steps p.tables e below (s₁.setTop (mkF m 1 #[.val (.ref li), .val (.int (0 : Int32))] [(.int (0 : Int32))])) _
    refine XS.aloadN X0.here hx rfl (hb hby d_jdk_38_method_20_1) rfl rfl ?_
    show Steps p.tables e below (s₁.setTop (mkF m 2 #[.val (.ref li), .val (.int (0 : Int32))] [(.ref li), (.int (0 : Int32))])) _
    exact k
  obtain ⟨T1, X1, e1, st1⟩ := getF X0 hx hZ hown (host := "") (Or.inl (hw _ (own_g (i := 125) rfl))) Via.refl e0 F3 (g := (mkF m 2 #[.val (.ref li), .val (.int (0 : Int32))] [(.ref li), (.int (0 : Int32))])) rfl rfl (hb hby d_jdk_38_method_20_2)
  refine own_go (B := T1.setTop (mkF m 5 #[.val (.ref li), .val (.int (0 : Int32))] [(.int (2 : Int32)), (.int (0 : Int32))])) st1 ?_
  -- pc 5: java/util/Objects.checkIndex
  obtain ⟨_, _, ⟨T2, L2, k2, n2⟩, -, X2, ⟨Lc2, hQ2, l2, y2, z2⟩, st2⟩ := Jvm.LawKit.callS X1 hx (y := (⟨"java/util/Objects", "checkIndex", "(II)I"⟩ : MethodName)) hown (mvT hZ (hw _ (own_g (i := 190) rfl))) (mvT hZ (hw _ (own_g (i := 191) rfl))) (mvT hZ (hw _ (own_g (i := 192) rfl))) (mvT hZ (hw _ (own_g (i := 193) rfl))) (by decide) (backOf (W := 0) (rmOcI l Z a0 hw [] (0 : Int32) (2 : Int32) h0 n0 O (by decide) (by decide)) hZ (hw _ (own_g (i := 193) rfl)) (hw _ (own_g (i := 192) rfl)) (by decide) (by decide)) (g := (mkF m 5 #[.val (.ref li), .val (.int (0 : Int32))] [(.int (2 : Int32)), (.int (0 : Int32))])) rfl (by rw [hml]; rfl) (argsL := [(.int (0 : Int32)), (.int (2 : Int32))]) (rest := []) (lenOf pd_7 rfl) rfl (by show 2 * 0 + _ ≤ _; exact Nat.le_of_eq rfl) (hb hby d_jdk_38_method_20_5) (fun _ hWm => ⟨rfl, e1, (by decide : 0 + 0 ≤ _), (by decide : 0 + 0 ≤ _)⟩)
  dsimp only [Pt.U, Pt.locs, Pt.cells, Pt.slots] at X2 l2 y2 z2 st2 hQ2
  subst l2 y2 z2
  obtain ⟨rfl, Nq2, Kq2⟩ := hQ2
  replace N := Fr.app N Nq2
  refine own_go (B := T2.setTop (mkF m 8 #[.val (.ref li), .val (.int (0 : Int32))] [(.int (0 : Int32))])) st2 ?_
  refine own_go (B := T2.setTop (mkF m 11 #[.val (.ref li), .val (.int (0 : Int32))] [(.int (0 : Int32)), (.ref li)])) (fun t k => ?_) ?_
  · show Steps p.tables e below (T2.setTop (mkF m 8 #[.val (.ref li), .val (.int (0 : Int32))] [(.int (0 : Int32))])) _
    refine XS.pop X2.here hx rfl (hb hby d_jdk_38_method_20_8) rfl rfl ?_
    show Steps p.tables e below (T2.setTop (mkF m 9 #[.val (.ref li), .val (.int (0 : Int32))] [])) _
    refine XS.aloadN X2.here hx rfl (hb hby d_jdk_38_method_20_9) rfl rfl ?_
    show Steps p.tables e below (T2.setTop (mkF m 10 #[.val (.ref li), .val (.int (0 : Int32))] [(.ref li)])) _
    refine XS.iloadN X2.here hx rfl (hb hby d_jdk_38_method_20_10) rfl ?_
    show Steps p.tables e below (T2.setTop (mkF m 11 #[.val (.ref li), .val (.int (0 : Int32))] [(.int (0 : Int32)), (.ref li)])) _
    exact k
  -- pc 11: java/util/ArrayList.elementData
  obtain ⟨cq3, kq3, q3a, q3b, q3c⟩ := isOf hZ Kq2 E
  obtain ⟨_, _, ⟨T3, L3, k3, n3⟩, -, X3, ⟨Lc3, hQ3, l3, y3, z3⟩, st3⟩ := X2.virtualBack hx (y := (⟨"java/util/ArrayList", "elementData", "(I)Ljava/lang/Object;"⟩ : MethodName)) (z := (⟨"java/util/ArrayList", "elementData", "(I)Ljava/lang/Object;"⟩ : MethodName)) hown (mvT hZ (hw _ (own_g (i := 198) rfl))) (mvT hZ (hw _ (own_g (i := 199) rfl))) (notFace_of_selects (args := #[]) (mvT hZ (hw _ (own_g (i := 201) rfl)))) (mvT hZ (hw _ (own_g (i := 201) rfl))) (mvT hZ (hw _ (own_g (i := 200) rfl))) (by decide) (backOf (W := 0) (rmEl20 l Z a0 hw [] li da kda t0 t1 h0 n0 O F2 V1) hZ (hw _ (own_g (i := 202) rfl)) (hw _ (own_g (i := 60) rfl)) (by decide) (by decide)) q3a q3c (g := (mkF m 11 #[.val (.ref li), .val (.int (0 : Int32))] [(.int (0 : Int32)), (.ref li)])) rfl (by rw [hml]; rfl) (Steps.refl _) (argsL := [(.int (0 : Int32))]) (rest := []) (lenOf pd_12 rfl) rfl (by show 2 * 0 + _ ≤ _; exact Nat.le_of_eq rfl) (hb hby d_jdk_38_method_20_11) (fun _ hWm => ⟨rfl, Kq2, (by decide : 0 + 0 ≤ _), (by decide : 0 + 0 ≤ _)⟩)
  dsimp only [Pt.U, Pt.locs, Pt.cells, Pt.slots] at X3 l3 y3 z3 st3 hQ3
  subst l3 y3 z3
  obtain ⟨rfl, Nq3, Kq3⟩ := hQ3
  replace N := Fr.app N Nq3
  refine own_go (B := T3.setTop (mkF m 14 #[.val (.ref li), .val (.int (0 : Int32))] [(.ref t0)])) (fun t k => st3.trans k) ?_
  obtain ⟨fs, hr, hrun, hended, hW, hsame⟩ := X3.leave (v := some (.ref t0)) (fun h => by rw [Bd.returns] at h; cases h)
  refine ⟨_, _, own_retA X3 hx rfl Bd.returns rfl (hb hby d_jdk_38_method_20_14) hr, hfin _ _ ⟨hrun, hended, _, _, rfl, ?_, ⟨_, rfl⟩, hW, hsame.mono (by decide) (by decide)⟩⟩
  show QGt20 Z li da kda t0 t1 h0 n0 _ T3.heap _
  exact ⟨rfl, N, Kq3⟩
def QEl21 (Z : State) (li : Addr) (da : Addr) (kda : ClassId) (t0 : Addr) (t1 : Addr) (h0 : Heap) (n0 : Nat) (v : Option Value) (h : Heap) (L : List Loc) : Prop := v = some (.ref t1) ∧ Fr n0 L ∧ h = h0
theorem ef_El21 (m : MethodId) (li : Addr) : entryFrame m #[(.ref li), (.int (1 : Int32))] 2 = mkF m 0 #[.val (.ref li), .val (.int (1 : Int32))] [] := by first | (simp [entryFrame, mkF, argsToLocals, Value.category]; done) | rfl | (rfl)
set_option maxRecDepth 65536 in
set_option maxHeartbeats 40000000 in
theorem rmEl21 (l : Launch) (Z : State) (a0 : Array Value) (hw : ∀ d ∈ tables_1, d.before a0 Z = true) (ws : List Jvm.Cond) (li : Addr) (da : Addr) (kda : ClassId) (t0 : Addr) (t1 : Addr) (h0 : Heap) (n0 : Nat) (O : Old Z n0 h0) (F2 : Fld Z h0 li "java/util/ArrayList" "elementData" "[Ljava/lang/Object;" (.ref da)) (V1 : Arv Z h0 da kda (.object "java/lang/Object") (10 : Int32) [(.ref t0), (.ref t1), .null, .null, .null, .null, .null, .null, .null, .null] .null) :
    MetFree l (⟨"java/util/ArrayList", "elementData", "(I)Ljava/lang/Object;"⟩ : MethodName) (head1 (Jvm.Cond.code (⟨"java/util/ArrayList", "elementData", "(I)Ljava/lang/Object;"⟩ : MethodName) jdk_38_method_18_code 2 (some (.object "java/lang/Object")) :: ws) ({ frames := 0, cells := 0, slots := 0, locals := 0 } : Room)) (fun as_ U => as_ = #[(.ref li), (.int (1 : Int32))] ∧ Z.Warmed39 U.vm ∧ U.heap = h0) (fun _ _ _ _ _ => True) (fun _ U oo_ U' => ∃ vv_ LL_, oo_ = .returned vv_ ∧ QEl21 Z li da kda t0 t1 h0 n0 vv_ U'.heap LL_ ∧ FrameEnd U oo_ U' LL_ ({ frames := 0, cells := 0, slots := 0, locals := 0 } : Room).cells ({ frames := 0, cells := 0, slots := 0, locals := 0 } : Room).slots) := by
  refine MetFree.of_bodySF (plainFor_of_name pn_7) hisR ?_
  intro p e s m args below meth c s₁ Bd hml0 hP hK
  obtain ⟨rfl, hZ, hh⟩ := hP
  have hx := Bd.exec
  have hby := Bd.bytes
  have hml : c.maxLocals = 2 := hml0
  have hown : s.vm.findClass "java/util/ArrayList" = some m.cls := findClass_of_methodNamed Bd.named
  have hnm := (name_of_methodNamed Bd.named Bd.method).1
  have X0 : Stand p l e ({ frames := 0, cells := 0, slots := 0, locals := 0 } : Room) s m #[(.ref li), (.int (1 : Int32))] below meth c s₁ [] 0 0 := Stand.of_body Bd
  have e0 : s₁.heap = h0 := by rw [← hh, Bd.state]; rfl
  have N := Fr.nil n0
  have K : Keep h0 h0 [] := Keep.refl h0 _
  refine own_go (B := s₁.setTop (mkF m 0 #[.val (.ref li), .val (.int (1 : Int32))] [])) (fun t k => castTop (ef_El21 m li) k) ?_
  refine own_abs (fun P hfin => ?_)
  refine own_go (B := s₁.setTop (mkF m 1 #[.val (.ref li), .val (.int (1 : Int32))] [(.ref li)])) (fun t k => ?_) ?_
  · show Steps p.tables e below (s₁.setTop (mkF m 0 #[.val (.ref li), .val (.int (1 : Int32))] [])) _
    refine XS.aloadN X0.here hx rfl (hb hby d_jdk_38_method_18_0) rfl rfl ?_
    show Steps p.tables e below (s₁.setTop (mkF m 1 #[.val (.ref li), .val (.int (1 : Int32))] [(.ref li)])) _
    exact k
  obtain ⟨T1, X1, e1, st1⟩ := getF X0 hx hZ hown (host := "") (Or.inl (hw _ (own_g (i := 80) rfl))) Via.refl e0 F2 (g := (mkF m 1 #[.val (.ref li), .val (.int (1 : Int32))] [(.ref li)])) rfl rfl (hb hby d_jdk_38_method_18_1)
  refine own_go (B := T1.setTop (mkF m 4 #[.val (.ref li), .val (.int (1 : Int32))] [(.ref da)])) st1 ?_
  refine own_go (B := T1.setTop (mkF m 5 #[.val (.ref li), .val (.int (1 : Int32))] [(.int (1 : Int32)), (.ref da)])) (fun t k => ?_) ?_
  · show Steps p.tables e below (T1.setTop (mkF m 4 #[.val (.ref li), .val (.int (1 : Int32))] [(.ref da)])) _
    refine XS.iloadN X1.here hx rfl (hb hby d_jdk_38_method_18_4) rfl ?_
    show Steps p.tables e below (T1.setTop (mkF m 5 #[.val (.ref li), .val (.int (1 : Int32))] [(.int (1 : Int32)), (.ref da)])) _
    exact k
  obtain ⟨cl2, Ar2, q2, Sz2, Nn2, Hs2, Gt2⟩ := V1
  have hin2 : ¬ ((1 : Int32) < 0 ∨ cl2.slots.size ≤ ((1 : Int32)).toNatClampNeg) := inb_of Sz2 ⟨by decide, by decide⟩
  have hat2 : cl2.slots[((1 : Int32)).toNatClampNeg]? = some (.ref t1) := Hs2.at hin2 rfl
  have st2 := X1.aaload hx (j := (1 : Int32)) (v := (.ref t1)) (by rw [e1]; exact Ar2.1) (State.isArrayOf_alike hZ.alike Ar2.2.1) rfl Ar2.2.2 hin2 hat2 (g := (mkF m 5 #[.val (.ref li), .val (.int (1 : Int32))] [(.int (1 : Int32)), (.ref da)])) rfl rfl (hb hby d_jdk_38_method_18_5)
  have V2 : Arv Z h0 da kda (.object "java/lang/Object") (10 : Int32) [(.ref t0), (.ref t1), .null, .null, .null, .null, .null, .null, .null, .null] .null := ⟨cl2, Ar2, q2, Sz2, Nn2, Hs2, Gt2⟩
  refine own_go (B := T1.setTop (mkF m 6 #[.val (.ref li), .val (.int (1 : Int32))] [(.ref t1)])) st2 ?_
  obtain ⟨fs, hr, hrun, hended, hW, hsame⟩ := X1.leave (v := some (.ref t1)) (fun h => by rw [Bd.returns] at h; cases h)
  refine ⟨_, _, own_retA X1 hx rfl Bd.returns rfl (hb hby d_jdk_38_method_18_6) hr, hfin _ _ ⟨hrun, hended, _, _, rfl, ?_, ⟨_, rfl⟩, hW, hsame.mono (by decide) (by decide)⟩⟩
  show QEl21 Z li da kda t0 t1 h0 n0 _ T1.heap _
  exact ⟨rfl, N, e1⟩
def QGt21 (Z : State) (li : Addr) (da : Addr) (kda : ClassId) (t0 : Addr) (t1 : Addr) (h0 : Heap) (n0 : Nat) (v : Option Value) (h : Heap) (L : List Loc) : Prop := v = some (.ref t1) ∧ Fr n0 L ∧ h = h0
theorem ef_Gt21 (m : MethodId) (li : Addr) : entryFrame m #[(.ref li), (.int (1 : Int32))] 2 = mkF m 0 #[.val (.ref li), .val (.int (1 : Int32))] [] := by first | (simp [entryFrame, mkF, argsToLocals, Value.category]; done) | rfl | (rfl)
set_option maxRecDepth 65536 in
set_option maxHeartbeats 40000000 in
theorem rmGt21 (l : Launch) (Z : State) (a0 : Array Value) (hw : ∀ d ∈ tables_1, d.before a0 Z = true) (ws : List Jvm.Cond) (li : Addr) (da : Addr) (kda : ClassId) (t0 : Addr) (t1 : Addr) (h0 : Heap) (n0 : Nat) (O : Old Z n0 h0) (E : Exa Z h0 li "java/util/ArrayList") (F3 : Fld Z h0 li "java/util/ArrayList" "size" "I" (.int (2 : Int32))) (F2 : Fld Z h0 li "java/util/ArrayList" "elementData" "[Ljava/lang/Object;" (.ref da)) (V1 : Arv Z h0 da kda (.object "java/lang/Object") (10 : Int32) [(.ref t0), (.ref t1), .null, .null, .null, .null, .null, .null, .null, .null] .null) :
    MetFree l (⟨"java/util/ArrayList", "get", "(I)Ljava/lang/Object;"⟩ : MethodName) (head1 (Jvm.Cond.code (⟨"java/util/ArrayList", "get", "(I)Ljava/lang/Object;"⟩ : MethodName) jdk_38_method_20_code 2 (some (.object "java/lang/Object")) :: ws) ({ frames := 2, cells := 0, slots := 0, locals := 27 } : Room)) (fun as_ U => as_ = #[(.ref li), (.int (1 : Int32))] ∧ Z.Warmed39 U.vm ∧ U.heap = h0) (fun _ _ _ _ _ => True) (fun _ U oo_ U' => ∃ vv_ LL_, oo_ = .returned vv_ ∧ QGt21 Z li da kda t0 t1 h0 n0 vv_ U'.heap LL_ ∧ FrameEnd U oo_ U' LL_ ({ frames := 2, cells := 0, slots := 0, locals := 27 } : Room).cells ({ frames := 2, cells := 0, slots := 0, locals := 27 } : Room).slots) := by
  refine MetFree.of_bodySF (plainFor_of_name pn_7) hisR ?_
  intro p e s m args below meth c s₁ Bd hml0 hP hK
  obtain ⟨rfl, hZ, hh⟩ := hP
  have hx := Bd.exec
  have hby := Bd.bytes
  have hml : c.maxLocals = 2 := hml0
  have hown : s.vm.findClass "java/util/ArrayList" = some m.cls := findClass_of_methodNamed Bd.named
  have hnm := (name_of_methodNamed Bd.named Bd.method).1
  have X0 : Stand p l e ({ frames := 2, cells := 0, slots := 0, locals := 27 } : Room) s m #[(.ref li), (.int (1 : Int32))] below meth c s₁ [] 0 0 := Stand.of_body Bd
  have e0 : s₁.heap = h0 := by rw [← hh, Bd.state]; rfl
  have N := Fr.nil n0
  have K : Keep h0 h0 [] := Keep.refl h0 _
  refine own_go (B := s₁.setTop (mkF m 0 #[.val (.ref li), .val (.int (1 : Int32))] [])) (fun t k => castTop (ef_Gt21 m li) k) ?_
  refine own_abs (fun P hfin => ?_)
  refine own_go (B := s₁.setTop (mkF m 2 #[.val (.ref li), .val (.int (1 : Int32))] [(.ref li), (.int (1 : Int32))])) (fun t k => ?_) ?_
  · show Steps p.tables e below (s₁.setTop (mkF m 0 #[.val (.ref li), .val (.int (1 : Int32))] [])) _
    refine XS.iloadN X0.here hx rfl (hb hby d_jdk_38_method_20_0) rfl ?_
    show Steps p.tables e below (s₁.setTop (mkF m 1 #[.val (.ref li), .val (.int (1 : Int32))] [(.int (1 : Int32))])) _
    refine XS.aloadN X0.here hx rfl (hb hby d_jdk_38_method_20_1) rfl rfl ?_
    show Steps p.tables e below (s₁.setTop (mkF m 2 #[.val (.ref li), .val (.int (1 : Int32))] [(.ref li), (.int (1 : Int32))])) _
    exact k
  obtain ⟨T1, X1, e1, st1⟩ := getF X0 hx hZ hown (host := "") (Or.inl (hw _ (own_g (i := 125) rfl))) Via.refl e0 F3 (g := (mkF m 2 #[.val (.ref li), .val (.int (1 : Int32))] [(.ref li), (.int (1 : Int32))])) rfl rfl (hb hby d_jdk_38_method_20_2)
  refine own_go (B := T1.setTop (mkF m 5 #[.val (.ref li), .val (.int (1 : Int32))] [(.int (2 : Int32)), (.int (1 : Int32))])) st1 ?_
  -- pc 5: java/util/Objects.checkIndex
  obtain ⟨_, _, ⟨T2, L2, k2, n2⟩, -, X2, ⟨Lc2, hQ2, l2, y2, z2⟩, st2⟩ := Jvm.LawKit.callS X1 hx (y := (⟨"java/util/Objects", "checkIndex", "(II)I"⟩ : MethodName)) hown (mvT hZ (hw _ (own_g (i := 190) rfl))) (mvT hZ (hw _ (own_g (i := 191) rfl))) (mvT hZ (hw _ (own_g (i := 192) rfl))) (mvT hZ (hw _ (own_g (i := 193) rfl))) (by decide) (backOf (W := 0) (rmOcI l Z a0 hw [] (1 : Int32) (2 : Int32) h0 n0 O (by decide) (by decide)) hZ (hw _ (own_g (i := 193) rfl)) (hw _ (own_g (i := 192) rfl)) (by decide) (by decide)) (g := (mkF m 5 #[.val (.ref li), .val (.int (1 : Int32))] [(.int (2 : Int32)), (.int (1 : Int32))])) rfl (by rw [hml]; rfl) (argsL := [(.int (1 : Int32)), (.int (2 : Int32))]) (rest := []) (lenOf pd_7 rfl) rfl (by show 2 * 0 + _ ≤ _; exact Nat.le_of_eq rfl) (hb hby d_jdk_38_method_20_5) (fun _ hWm => ⟨rfl, e1, (by decide : 0 + 0 ≤ _), (by decide : 0 + 0 ≤ _)⟩)
  dsimp only [Pt.U, Pt.locs, Pt.cells, Pt.slots] at X2 l2 y2 z2 st2 hQ2
  subst l2 y2 z2
  obtain ⟨rfl, Nq2, Kq2⟩ := hQ2
  replace N := Fr.app N Nq2
  refine own_go (B := T2.setTop (mkF m 8 #[.val (.ref li), .val (.int (1 : Int32))] [(.int (1 : Int32))])) st2 ?_
  refine own_go (B := T2.setTop (mkF m 11 #[.val (.ref li), .val (.int (1 : Int32))] [(.int (1 : Int32)), (.ref li)])) (fun t k => ?_) ?_
  · show Steps p.tables e below (T2.setTop (mkF m 8 #[.val (.ref li), .val (.int (1 : Int32))] [(.int (1 : Int32))])) _
    refine XS.pop X2.here hx rfl (hb hby d_jdk_38_method_20_8) rfl rfl ?_
    show Steps p.tables e below (T2.setTop (mkF m 9 #[.val (.ref li), .val (.int (1 : Int32))] [])) _
    refine XS.aloadN X2.here hx rfl (hb hby d_jdk_38_method_20_9) rfl rfl ?_
    show Steps p.tables e below (T2.setTop (mkF m 10 #[.val (.ref li), .val (.int (1 : Int32))] [(.ref li)])) _
    refine XS.iloadN X2.here hx rfl (hb hby d_jdk_38_method_20_10) rfl ?_
    show Steps p.tables e below (T2.setTop (mkF m 11 #[.val (.ref li), .val (.int (1 : Int32))] [(.int (1 : Int32)), (.ref li)])) _
    exact k
  -- pc 11: java/util/ArrayList.elementData
  obtain ⟨cq3, kq3, q3a, q3b, q3c⟩ := isOf hZ Kq2 E
  obtain ⟨_, _, ⟨T3, L3, k3, n3⟩, -, X3, ⟨Lc3, hQ3, l3, y3, z3⟩, st3⟩ := X2.virtualBack hx (y := (⟨"java/util/ArrayList", "elementData", "(I)Ljava/lang/Object;"⟩ : MethodName)) (z := (⟨"java/util/ArrayList", "elementData", "(I)Ljava/lang/Object;"⟩ : MethodName)) hown (mvT hZ (hw _ (own_g (i := 198) rfl))) (mvT hZ (hw _ (own_g (i := 199) rfl))) (notFace_of_selects (args := #[]) (mvT hZ (hw _ (own_g (i := 201) rfl)))) (mvT hZ (hw _ (own_g (i := 201) rfl))) (mvT hZ (hw _ (own_g (i := 200) rfl))) (by decide) (backOf (W := 0) (rmEl21 l Z a0 hw [] li da kda t0 t1 h0 n0 O F2 V1) hZ (hw _ (own_g (i := 202) rfl)) (hw _ (own_g (i := 60) rfl)) (by decide) (by decide)) q3a q3c (g := (mkF m 11 #[.val (.ref li), .val (.int (1 : Int32))] [(.int (1 : Int32)), (.ref li)])) rfl (by rw [hml]; rfl) (Steps.refl _) (argsL := [(.int (1 : Int32))]) (rest := []) (lenOf pd_12 rfl) rfl (by show 2 * 0 + _ ≤ _; exact Nat.le_of_eq rfl) (hb hby d_jdk_38_method_20_11) (fun _ hWm => ⟨rfl, Kq2, (by decide : 0 + 0 ≤ _), (by decide : 0 + 0 ≤ _)⟩)
  dsimp only [Pt.U, Pt.locs, Pt.cells, Pt.slots] at X3 l3 y3 z3 st3 hQ3
  subst l3 y3 z3
  obtain ⟨rfl, Nq3, Kq3⟩ := hQ3
  replace N := Fr.app N Nq3
  refine own_go (B := T3.setTop (mkF m 14 #[.val (.ref li), .val (.int (1 : Int32))] [(.ref t1)])) (fun t k => st3.trans k) ?_
  obtain ⟨fs, hr, hrun, hended, hW, hsame⟩ := X3.leave (v := some (.ref t1)) (fun h => by rw [Bd.returns] at h; cases h)
  refine ⟨_, _, own_retA X3 hx rfl Bd.returns rfl (hb hby d_jdk_38_method_20_14) hr, hfin _ _ ⟨hrun, hended, _, _, rfl, ?_, ⟨_, rfl⟩, hW, hsame.mono (by decide) (by decide)⟩⟩
  show QGt21 Z li da kda t0 t1 h0 n0 _ T3.heap _
  exact ⟨rfl, N, Kq3⟩
def QTcI (Z : State) (cu : Addr) (li : Addr) (p2 : Int32) (w5 : Addr) (h0 : Heap) (n0 : Nat) (v : Option Value) (h : Heap) (L : List Loc) : Prop := ∃ en : Addr, v = none ∧ Fr n0 L ∧ Keep h0 h [cu] ∧ h0.size ≤ en ∧ Exa Z h en "com/example/nasute/nasute/sql/Token" ∧ Fld Z h cu "com/example/nasute/nasute/sql/TokenCursor" "tokens" "Ljava/util/List;" (.ref li) ∧ Fld Z h cu "com/example/nasute/nasute/sql/TokenCursor" "end" "Lcom/example/nasute/nasute/sql/Token;" (.ref en) ∧ Fld Z h cu "com/example/nasute/nasute/sql/TokenCursor" "at" "I" (.int (0 : Int32))
theorem ef_TcI (m : MethodId) (cu : Addr) (li : Addr) (p2 : Int32) : entryFrame m #[(.ref cu), (.ref li), (.int p2)] 3 = mkF m 0 #[.val (.ref cu), .val (.ref li), .val (.int p2)] [] := by first | (simp [entryFrame, mkF, argsToLocals, Value.category]; done) | rfl | (rfl)
set_option maxRecDepth 65536 in
set_option maxHeartbeats 40000000 in
theorem rmTcI (l : Launch) (Z : State) (a0 : Array Value) (hw : ∀ d ∈ tables_1, d.before a0 Z = true) (ws : List Jvm.Cond) (cu : Addr) (li : Addr) (p2 : Int32) (w5 : Addr) (h0 : Heap) (n0 : Nat) (O : Old Z n0 h0) (E : Exa Z h0 cu "com/example/nasute/nasute/sql/TokenCursorIsTextEndPinLaw") (F0 : Fld Z h0 cu "com/example/nasute/nasute/sql/TokenCursor" "tokens" "Ljava/util/List;" .null) (F1 : Fld Z h0 cu "com/example/nasute/nasute/sql/TokenCursor" "end" "Lcom/example/nasute/nasute/sql/Token;" .null) (F2 : Fld Z h0 cu "com/example/nasute/nasute/sql/TokenCursor" "at" "I" (.int (0 : Int32))) (ga : n0 ≤ cu) (S_5 : Sta Z Z.heap "com/example/nasute/nasute/sql/Token$Type" "SYMBOL" "Lcom/example/nasute/nasute/sql/Token$Type;" (.ref w5)) :
    MetFree l (⟨"com/example/nasute/nasute/sql/TokenCursor", "<init>", "(Ljava/util/List;I)V"⟩ : MethodName) (head1 (Jvm.Cond.code (⟨"com/example/nasute/nasute/sql/TokenCursor", "<init>", "(Ljava/util/List;I)V"⟩ : MethodName) prog_92_method_1_code 3 none :: ws) ({ frames := 3, cells := 3, slots := 8, locals := 42 } : Room)) (fun as_ U => as_ = #[(.ref cu), (.ref li), (.int p2)] ∧ Z.Warmed39 U.vm ∧ U.heap = h0) (fun _ _ _ _ _ => True) (fun _ U oo_ U' => ∃ vv_ LL_, oo_ = .returned vv_ ∧ QTcI Z cu li p2 w5 h0 n0 vv_ U'.heap LL_ ∧ ReturnedEndW U oo_ U' LL_ ({ frames := 3, cells := 3, slots := 8, locals := 42 } : Room).cells ({ frames := 3, cells := 3, slots := 8, locals := 42 } : Room).slots) := by
  refine MetFree.of_bodySF (plainFor_of_name pn_10) hisR ?_
  intro p e s m args below meth c s₁ Bd hml0 hP hK
  obtain ⟨rfl, hZ, hh⟩ := hP
  have hx := Bd.exec
  have hby := Bd.bytes
  have hml : c.maxLocals = 3 := hml0
  have hown : s.vm.findClass "com/example/nasute/nasute/sql/TokenCursor" = some m.cls := findClass_of_methodNamed Bd.named
  have hnm := (name_of_methodNamed Bd.named Bd.method).1
  have X0 : Stand p l e ({ frames := 3, cells := 3, slots := 8, locals := 42 } : Room) (s.setVm s.vm) m #[(.ref cu), (.ref li), (.int p2)] below meth c s₁ [] 0 0 := Stand.of_body Bd
  have e0 : s₁.heap = h0 := by rw [← hh, Bd.state]; rfl
  have N := Fr.nil n0
  have hown : (s.setVm s.vm).vm.findClass "com/example/nasute/nasute/sql/TokenCursor" = some m.cls := hown
  have hZ : Z.Warmed39 (s.setVm s.vm).vm := hZ
  have hS : s.Since s.vm h0.size := (State.WarmedH.refl s).since _
  have hk : h0.size ≤ h0.size := Nat.le_refl _
  have K : Keep h0 h0 [cu] := Keep.refl h0 _
  refine own_go (B := s₁.setTop (mkF m 0 #[.val (.ref cu), .val (.ref li), .val (.int p2)] [])) (fun t k => castTop (ef_TcI m cu li p2) k) ?_
  refine own_abs (fun P hfin => ?_)
  refine own_go (B := s₁.setTop (mkF m 1 #[.val (.ref cu), .val (.ref li), .val (.int p2)] [(.ref cu)])) (fun t k => ?_) ?_
  · show Steps p.tables e below (s₁.setTop (mkF m 0 #[.val (.ref cu), .val (.ref li), .val (.int p2)] [])) _
    refine XS.aloadN X0.here hx rfl (hb hby d_prog_92_method_1_0) rfl rfl ?_
    show Steps p.tables e below (s₁.setTop (mkF m 1 #[.val (.ref cu), .val (.ref li), .val (.int p2)] [(.ref cu)])) _
    exact k
  obtain ⟨T1, X1, e1, st1⟩ := initO X0 hx hZ hown (hw _ (own_g (i := 92) rfl)) (hw _ (own_g (i := 24) rfl)) (hw _ (own_g (i := 25) rfl)) e0 (g := (mkF m 1 #[.val (.ref cu), .val (.ref li), .val (.int p2)] [(.ref cu)])) rfl (by rw [hml]; rfl) rfl (hb hby d_prog_92_method_1_1) (by decide) (W := 0) (by show 2 * 0 + _ ≤ _; exact Nat.le_of_eq rfl) (by decide)
  refine own_go (B := T1.setTop (mkF m 4 #[.val (.ref cu), .val (.ref li), .val (.int p2)] [])) st1 ?_
  refine own_go (B := T1.setTop (mkF m 6 #[.val (.ref cu), .val (.ref li), .val (.int p2)] [(.ref li), (.ref cu)])) (fun t k => ?_) ?_
  · show Steps p.tables e below (T1.setTop (mkF m 4 #[.val (.ref cu), .val (.ref li), .val (.int p2)] [])) _
    refine XS.aloadN X1.here hx rfl (hb hby d_prog_92_method_1_4) rfl rfl ?_
    show Steps p.tables e below (T1.setTop (mkF m 5 #[.val (.ref cu), .val (.ref li), .val (.int p2)] [(.ref cu)])) _
    refine XS.aloadN X1.here hx rfl (hb hby d_prog_92_method_1_5) rfl rfl ?_
    show Steps p.tables e below (T1.setTop (mkF m 6 #[.val (.ref cu), .val (.ref li), .val (.int p2)] [(.ref li), (.ref cu)])) _
    exact k
  obtain ⟨T2, h2, X2, e2, W2, st2⟩ := putF X1 hx hZ hown (host := "") (Or.inl (hw _ (own_g (i := 93) rfl))) Via.refl e1 F0 E (Or.inr ⟨(hw _ (own_g (i := 94) rfl)), rfl, hnm⟩) (hw _ (own_g (i := 83) rfl)) (ty := (.object "java/util/List")) (by decide) rfl rfl (g := (mkF m 6 #[.val (.ref cu), .val (.ref li), .val (.int p2)] [(.ref li), (.ref cu)])) rfl rfl (hb hby d_prog_92_method_1_6)
  have Fw2 := F0.same W2
  replace E := E.wr W2
  clear F0
  replace F1 := F1.other W2 (Or.inr (slot_ne (Or.inr (hw _ (own_g (i := 103) rfl))) (Or.inr (hw _ (own_g (i := 94) rfl))) (by decide) (t := (.object "com/example/nasute/nasute/sql/Token")) (t' := (.object "java/util/List")) (by decide) (by decide)))
  replace F2 := F2.other W2 (Or.inr (slot_ne (Or.inl (hw _ (own_g (i := 115) rfl))) (Or.inr (hw _ (own_g (i := 94) rfl))) (by decide) (t := .int) (t' := (.object "java/util/List")) (by decide) (by decide)))
  replace O := O.wr W2 ga
  replace hk := Nat.le_trans hk (Keep.of_wr W2).1
  replace K := K.wr W2 (Or.inl (own_g (i := 0) rfl))
  replace N := Fr.snoc X2 N ga
  refine own_go (B := T2.setTop (mkF m 9 #[.val (.ref cu), .val (.ref li), .val (.int p2)] [])) st2 ?_
  refine own_go (B := T2.setTop (mkF m 10 #[.val (.ref cu), .val (.ref li), .val (.int p2)] [(.ref cu)])) (fun t k => ?_) ?_
  · show Steps p.tables e below (T2.setTop (mkF m 9 #[.val (.ref cu), .val (.ref li), .val (.int p2)] [])) _
    refine XS.aloadN X2.here hx rfl (hb hby d_prog_92_method_1_9) rfl rfl ?_
    show Steps p.tables e below (T2.setTop (mkF m 10 #[.val (.ref cu), .val (.ref li), .val (.int p2)] [(.ref cu)])) _
    exact k
  obtain ⟨T3, h3, X3, e3, E3, A3, D3, -, st3⟩ := newO X2 hx hZ hown (hw _ (own_g (i := 95) rfl)) (hw _ (own_g (i := 31) rfl)) (hw _ (own_g (i := 32) rfl)) e2 (g := (mkF m 10 #[.val (.ref cu), .val (.ref li), .val (.int p2)] [(.ref cu)])) rfl (hb hby d_prog_92_method_1_10) (by decide) (by decide)
  obtain ⟨b3, g3⟩ : ∃ z, z = h2.size := ⟨_, rfl⟩
  rw [← g3] at A3 D3 st3
  have lt_cu_b3 : cu < b3 := Nat.lt_of_lt_of_le E.lt (Nat.le_of_eq g3.symm)
  have g_b3 : n0 ≤ b3 := Nat.le_trans (own_oldsz O) (Nat.le_of_eq g3.symm)
  have s_b3 : h0.size ≤ b3 := Nat.le_trans K.1 (Nat.le_of_eq g3.symm)
  replace E := E.ext E3
  replace F1 := F1.ext E3
  replace F2 := F2.ext E3
  replace Fw2 := Fw2.ext E3
  replace O := O.ext E3
  replace hk := Nat.le_trans hk E3.1
  replace K := K.ext E3
  have F3_type : Fld Z h3 b3 "com/example/nasute/nasute/sql/Token" "type" "Lcom/example/nasute/nasute/sql/Token$Type;" .null := D3 (Or.inr (hw _ (own_g (i := 49) rfl))) (ty := (.object "com/example/nasute/nasute/sql/Token$Type")) (by decide)
  have F3_value : Fld Z h3 b3 "com/example/nasute/nasute/sql/Token" "value" "Ljava/lang/String;" .null := D3 (Or.inr (hw _ (own_g (i := 51) rfl))) (ty := (.object "java/lang/String")) (by decide)
  have F3_offset : Fld Z h3 b3 "com/example/nasute/nasute/sql/Token" "offset" "I" (.int (0 : Int32)) := D3 (Or.inr (hw _ (own_g (i := 53) rfl))) (ty := .int) (by decide)
  have F3_end : Fld Z h3 b3 "com/example/nasute/nasute/sql/Token" "end" "I" (.int (0 : Int32)) := D3 (Or.inr (hw _ (own_g (i := 55) rfl))) (ty := .int) (by decide)
  refine own_go (B := T3.setTop (mkF m 13 #[.val (.ref cu), .val (.ref li), .val (.int p2)] [(.ref b3), (.ref cu)])) st3 ?_
  refine own_go (B := T3.setTop (mkF m 14 #[.val (.ref cu), .val (.ref li), .val (.int p2)] [(.ref b3), (.ref b3), (.ref cu)])) (fun t k => ?_) ?_
  · show Steps p.tables e below (T3.setTop (mkF m 13 #[.val (.ref cu), .val (.ref li), .val (.int p2)] [(.ref b3), (.ref cu)])) _
    refine XS.dup X3.here hx rfl (hb hby d_prog_92_method_1_13) rfl rfl ?_
    show Steps p.tables e below (T3.setTop (mkF m 14 #[.val (.ref cu), .val (.ref li), .val (.int p2)] [(.ref b3), (.ref b3), (.ref cu)])) _
    exact k
  obtain ⟨T4, X4, e4, st4⟩ := getS2 X3 hx hZ hown (host := "") (Or.inl (hw _ (own_g (i := 96) rfl))) Via.refl e3 (S_5.ext O.2) (g := (mkF m 14 #[.val (.ref cu), .val (.ref li), .val (.int p2)] [(.ref b3), (.ref b3), (.ref cu)])) rfl (hb hby d_prog_92_method_1_14)
  refine own_go (B := T4.setTop (mkF m 17 #[.val (.ref cu), .val (.ref li), .val (.int p2)] [(.ref w5), (.ref b3), (.ref b3), (.ref cu)])) st4 ?_
  obtain ⟨b5, T5, h5, k5, X5, e5, E5, hS, hk', hZ, hown, st5⟩ := ldcS X4 hx hZ hown (hw _ (own_g (i := 98) rfl)) (fun d hd => hw d ((by decide +kernel : ∀ d ∈ Bundle.stringAtoms, d ∈ tables_1) d hd)) e4 hS hk (g := (mkF m 17 #[.val (.ref cu), .val (.ref li), .val (.int p2)] [(.ref w5), (.ref b3), (.ref b3), (.ref cu)])) rfl (hb hby d_prog_92_method_1_17) (n := 0) (by decide) (by decide) (by decide) (by decide)
  replace E := E.ext E5
  replace F1 := F1.ext E5
  replace F2 := F2.ext E5
  replace Fw2 := Fw2.ext E5
  replace A3 := A3.ext E5
  replace F3_type := F3_type.ext E5
  replace F3_value := F3_value.ext E5
  replace F3_offset := F3_offset.ext E5
  replace F3_end := F3_end.ext E5
  replace O := O.ext E5
  replace hk := Nat.le_trans hk E5.1
  replace K := K.ext E5
  replace hk := hk'
  refine own_go (B := T5.setTop (mkF m 19 #[.val (.ref cu), .val (.ref li), .val (.int p2)] [(.ref b5), (.ref w5), (.ref b3), (.ref b3), (.ref cu)])) st5 ?_
  refine own_go (B := T5.setTop (mkF m 21 #[.val (.ref cu), .val (.ref li), .val (.int p2)] [(.int p2), (.int p2), (.ref b5), (.ref w5), (.ref b3), (.ref b3), (.ref cu)])) (fun t k => ?_) ?_
  · show Steps p.tables e below (T5.setTop (mkF m 19 #[.val (.ref cu), .val (.ref li), .val (.int p2)] [(.ref b5), (.ref w5), (.ref b3), (.ref b3), (.ref cu)])) _
    refine XS.iloadN X5.here hx rfl (hb hby d_prog_92_method_1_19) rfl ?_
    show Steps p.tables e below (T5.setTop (mkF m 20 #[.val (.ref cu), .val (.ref li), .val (.int p2)] [(.int p2), (.ref b5), (.ref w5), (.ref b3), (.ref b3), (.ref cu)])) _
    refine XS.iloadN X5.here hx rfl (hb hby d_prog_92_method_1_20) rfl ?_
    show Steps p.tables e below (T5.setTop (mkF m 21 #[.val (.ref cu), .val (.ref li), .val (.int p2)] [(.int p2), (.int p2), (.ref b5), (.ref w5), (.ref b3), (.ref b3), (.ref cu)])) _
    exact k
  -- pc 21: com/example/nasute/nasute/sql/Token.<init>
  obtain ⟨_, _, ⟨T6, L6, k6, n6⟩, -, X6, ⟨Lc6, hQ6, l6, y6, z6⟩, st6⟩ := X5.specialBack hx (y := (⟨"com/example/nasute/nasute/sql/Token", "<init>", "(Lcom/example/nasute/nasute/sql/Token$Type;Ljava/lang/String;II)V"⟩ : MethodName)) rfl hown (mvT hZ (hw _ (own_g (i := 101) rfl))) (mvT hZ (hw _ (own_g (i := 40) rfl))) (mvT hZ (hw _ (own_g (i := 41) rfl))) (by decide) (backOf (W := 2) (rmTkI l Z a0 hw [] b3 w5 b5 p2 p2 h5 n0 O A3 F3_type F3_value F3_offset F3_end g_b3) hZ (hw _ (own_g (i := 41) rfl)) (hw _ (own_g (i := 32) rfl)) (by decide) (by decide)) (g := (mkF m 21 #[.val (.ref cu), .val (.ref li), .val (.int p2)] [(.int p2), (.int p2), (.ref b5), (.ref w5), (.ref b3), (.ref b3), (.ref cu)])) rfl (by rw [hml]; rfl) (Steps.refl _) (a := b3) (argsL := [(.ref w5), (.ref b5), (.int p2), (.int p2)]) (rest := [(.ref b3), (.ref cu)]) (lenOf pd_6 rfl) rfl (by show 2 * 0 + _ ≤ _; exact Nat.le_of_eq rfl) (hb hby d_prog_92_method_1_21) (fun _ hWm => ⟨rfl, e5, (by decide : 3 + 0 ≤ _), (by decide : 8 + 0 ≤ _)⟩)
  dsimp only [Pt.U, Pt.locs, Pt.cells, Pt.slots] at X6 l6 y6 z6 st6 hQ6
  subst l6 y6 z6
  obtain ⟨rfl, Nq6, Kq6⟩ := hQ6
  replace N := Fr.app N Nq6
  replace E := E.keep Kq6
  replace F1 := F1.keep Kq6 (ninS (Nat.ne_of_lt lt_cu_b3) nin0)
  replace F2 := F2.keep Kq6 (ninS (Nat.ne_of_lt lt_cu_b3) nin0)
  replace Fw2 := Fw2.keep Kq6 (ninS (Nat.ne_of_lt lt_cu_b3) nin0)
  replace A3 := A3.keep Kq6
  clear F3_type
  clear F3_value
  clear F3_offset
  clear F3_end
  replace O := O.keep Kq6 (allS g_b3 all0)
  replace hk := Nat.le_trans hk Kq6.1
  replace K := K.trans Kq6 (allS (Or.inr s_b3) all0)
  refine own_go (B := T6.setTop (mkF m 24 #[.val (.ref cu), .val (.ref li), .val (.int p2)] [(.ref b3), (.ref cu)])) (fun t k => st6.trans k) ?_
  obtain ⟨T7, h7, X7, e7, W7, st7⟩ := putF X6 hx hZ hown (host := "") (Or.inl (hw _ (own_g (i := 102) rfl))) Via.refl rfl F1 E (Or.inr ⟨(hw _ (own_g (i := 103) rfl)), rfl, hnm⟩) (hw _ (own_g (i := 83) rfl)) (ty := (.object "com/example/nasute/nasute/sql/Token")) (by decide) rfl rfl (g := (mkF m 24 #[.val (.ref cu), .val (.ref li), .val (.int p2)] [(.ref b3), (.ref cu)])) rfl rfl (hb hby d_prog_92_method_1_24)
  have Fw7 := F1.same W7
  replace E := E.wr W7
  clear F1
  replace F2 := F2.other W7 (Or.inr (slot_ne (Or.inl (hw _ (own_g (i := 115) rfl))) (Or.inr (hw _ (own_g (i := 103) rfl))) (by decide) (t := .int) (t' := (.object "com/example/nasute/nasute/sql/Token")) (by decide) (by decide)))
  replace Fw2 := Fw2.other W7 (Or.inr (slot_ne (Or.inr (hw _ (own_g (i := 94) rfl))) (Or.inr (hw _ (own_g (i := 103) rfl))) (by decide) (t := (.object "java/util/List")) (t' := (.object "com/example/nasute/nasute/sql/Token")) (by decide) (by decide)))
  replace A3 := A3.wr W7
  replace O := O.wr W7 ga
  replace hk := Nat.le_trans hk (Keep.of_wr W7).1
  replace K := K.wr W7 (Or.inl (own_g (i := 0) rfl))
  replace N := Fr.snoc X7 N ga
  refine own_go (B := T7.setTop (mkF m 27 #[.val (.ref cu), .val (.ref li), .val (.int p2)] [])) st7 ?_
  obtain ⟨fs, hr, hrun, hended, hEnd⟩ := X7.leaveW hS (by rw [e7]; exact hk) (v := none) (fun _ => rfl)
  refine ⟨_, _, X7.returnOut hx Bd.returns (hb hby d_prog_92_method_1_27) hr, hfin _ _ ⟨hrun, hended, _, _, rfl, ?_, hEnd.1, hEnd.2.1, hEnd.2.2.1, hEnd.2.2.2.mono (by decide) (by decide)⟩⟩
  show QTcI Z cu li p2 w5 h0 n0 _ T7.heap _
  rw [e7]
  exact ⟨b3, rfl, N, K, s_b3, A3, Fw2, Fw7, F2⟩
def QPlI (Z : State) (cu : Addr) (li : Addr) (p2 : Int32) (w5 : Addr) (h0 : Heap) (n0 : Nat) (v : Option Value) (h : Heap) (L : List Loc) : Prop := ∃ en : Addr, v = none ∧ Fr n0 L ∧ Keep h0 h [cu] ∧ h0.size ≤ en ∧ Exa Z h en "com/example/nasute/nasute/sql/Token" ∧ Fld Z h cu "com/example/nasute/nasute/sql/TokenCursor" "tokens" "Ljava/util/List;" (.ref li) ∧ Fld Z h cu "com/example/nasute/nasute/sql/TokenCursor" "end" "Lcom/example/nasute/nasute/sql/Token;" (.ref en) ∧ Fld Z h cu "com/example/nasute/nasute/sql/TokenCursor" "at" "I" (.int (0 : Int32))
theorem ef_PlI (m : MethodId) (cu : Addr) (li : Addr) (p2 : Int32) : entryFrame m #[(.ref cu), (.ref li), (.int p2)] 3 = mkF m 0 #[.val (.ref cu), .val (.ref li), .val (.int p2)] [] := by first | (simp [entryFrame, mkF, argsToLocals, Value.category]; done) | rfl | (rfl)
set_option maxRecDepth 65536 in
set_option maxHeartbeats 40000000 in
theorem rmPlI (l : Launch) (Z : State) (a0 : Array Value) (hw : ∀ d ∈ tables_1, d.before a0 Z = true) (ws : List Jvm.Cond) (cu : Addr) (li : Addr) (p2 : Int32) (w5 : Addr) (h0 : Heap) (n0 : Nat) (O : Old Z n0 h0) (E : Exa Z h0 cu "com/example/nasute/nasute/sql/TokenCursorIsTextEndPinLaw") (F0 : Fld Z h0 cu "com/example/nasute/nasute/sql/TokenCursor" "tokens" "Ljava/util/List;" .null) (F1 : Fld Z h0 cu "com/example/nasute/nasute/sql/TokenCursor" "end" "Lcom/example/nasute/nasute/sql/Token;" .null) (F2 : Fld Z h0 cu "com/example/nasute/nasute/sql/TokenCursor" "at" "I" (.int (0 : Int32))) (ga : n0 ≤ cu) (S_5 : Sta Z Z.heap "com/example/nasute/nasute/sql/Token$Type" "SYMBOL" "Lcom/example/nasute/nasute/sql/Token$Type;" (.ref w5)) :
    MetFree l (⟨"com/example/nasute/nasute/sql/TokenCursorIsTextEndPinLaw", "<init>", "(Ljava/util/List;I)V"⟩ : MethodName) (head1 (Jvm.Cond.code (⟨"com/example/nasute/nasute/sql/TokenCursorIsTextEndPinLaw", "<init>", "(Ljava/util/List;I)V"⟩ : MethodName) method_1_code 3 none :: ws) ({ frames := 4, cells := 3, slots := 8, locals := 56 } : Room)) (fun as_ U => as_ = #[(.ref cu), (.ref li), (.int p2)] ∧ Z.Warmed39 U.vm ∧ U.heap = h0) (fun _ _ _ _ _ => True) (fun _ U oo_ U' => ∃ vv_ LL_, oo_ = .returned vv_ ∧ QPlI Z cu li p2 w5 h0 n0 vv_ U'.heap LL_ ∧ ReturnedEndW U oo_ U' LL_ ({ frames := 4, cells := 3, slots := 8, locals := 56 } : Room).cells ({ frames := 4, cells := 3, slots := 8, locals := 56 } : Room).slots) := by
  refine MetFree.of_bodySF (plainFor_of_name pn_4) hisR ?_
  intro p e s m args below meth c s₁ Bd hml0 hP hK
  obtain ⟨rfl, hZ, hh⟩ := hP
  have hx := Bd.exec
  have hby := Bd.bytes
  have hml : c.maxLocals = 3 := hml0
  have hown : s.vm.findClass "com/example/nasute/nasute/sql/TokenCursorIsTextEndPinLaw" = some m.cls := findClass_of_methodNamed Bd.named
  have hnm := (name_of_methodNamed Bd.named Bd.method).1
  have X0 : Stand p l e ({ frames := 4, cells := 3, slots := 8, locals := 56 } : Room) (s.setVm s.vm) m #[(.ref cu), (.ref li), (.int p2)] below meth c s₁ [] 0 0 := Stand.of_body Bd
  have e0 : s₁.heap = h0 := by rw [← hh, Bd.state]; rfl
  have N := Fr.nil n0
  have hown : (s.setVm s.vm).vm.findClass "com/example/nasute/nasute/sql/TokenCursorIsTextEndPinLaw" = some m.cls := hown
  have hZ : Z.Warmed39 (s.setVm s.vm).vm := hZ
  have hS : s.Since s.vm h0.size := (State.WarmedH.refl s).since _
  have hk : h0.size ≤ h0.size := Nat.le_refl _
  have K : Keep h0 h0 [cu] := Keep.refl h0 _
  refine own_go (B := s₁.setTop (mkF m 0 #[.val (.ref cu), .val (.ref li), .val (.int p2)] [])) (fun t k => castTop (ef_PlI m cu li p2) k) ?_
  refine own_abs (fun P hfin => ?_)
  refine own_go (B := s₁.setTop (mkF m 3 #[.val (.ref cu), .val (.ref li), .val (.int p2)] [(.int p2), (.ref li), (.ref cu)])) (fun t k => ?_) ?_
  · show Steps p.tables e below (s₁.setTop (mkF m 0 #[.val (.ref cu), .val (.ref li), .val (.int p2)] [])) _
    refine XS.aloadN X0.here hx rfl (hb hby d_method_1_0) rfl rfl ?_
    show Steps p.tables e below (s₁.setTop (mkF m 1 #[.val (.ref cu), .val (.ref li), .val (.int p2)] [(.ref cu)])) _
    refine XS.aloadN X0.here hx rfl (hb hby d_method_1_1) rfl rfl ?_
    show Steps p.tables e below (s₁.setTop (mkF m 2 #[.val (.ref cu), .val (.ref li), .val (.int p2)] [(.ref li), (.ref cu)])) _
    refine XS.iloadN X0.here hx rfl (hb hby d_method_1_2) rfl ?_
    show Steps p.tables e below (s₁.setTop (mkF m 3 #[.val (.ref cu), .val (.ref li), .val (.int p2)] [(.int p2), (.ref li), (.ref cu)])) _
    exact k
  -- pc 3: com/example/nasute/nasute/sql/TokenCursor.<init>
  obtain ⟨_, _, ⟨T1, L1, k1, n1⟩, -, X1, hSq1, hgq1, ⟨Lc1, hQ1, l1, y1, z1⟩, st1⟩ := X0.specialBackS hx (y := (⟨"com/example/nasute/nasute/sql/TokenCursor", "<init>", "(Ljava/util/List;I)V"⟩ : MethodName)) rfl hown (mvT hZ (hw _ (own_g (i := 87) rfl))) (mvT hZ (hw _ (own_g (i := 88) rfl))) (mvT hZ (hw _ (own_g (i := 91) rfl))) (by decide) (backOfS (W := 0) (rmTcI l Z a0 hw [] cu li p2 w5 h0 n0 O E F0 F1 F2 ga S_5) hZ (hw _ (own_g (i := 91) rfl)) (hw _ (own_g (i := 90) rfl)) (by decide) (by decide)) (g := (mkF m 3 #[.val (.ref cu), .val (.ref li), .val (.int p2)] [(.int p2), (.ref li), (.ref cu)])) rfl (by rw [hml]; rfl) (Steps.refl _) (a := cu) (argsL := [(.ref li), (.int p2)]) (rest := []) (lenOf pd_13 rfl) rfl (by show 2 * 0 + _ ≤ _; exact Nat.le_of_eq rfl) (hb hby d_method_1_3) (fun _ hWm => ⟨rfl, e0, (by decide : 0 + 3 ≤ _), (by decide : 0 + 8 ≤ _)⟩)
  dsimp only [Pt.U, Pt.locs, Pt.cells, Pt.slots] at X1 l1 y1 z1 st1 hQ1 hSq1 hgq1
  subst l1 y1 z1
  obtain ⟨X1, hS, hZ, hown⟩ := rebS hS (by rw [e0]; exact hk) X1 hSq1 hgq1 hZ hown
  obtain ⟨en1, rfl, Nq1, Kq1, fq1_en, Gq1_0, Gq1_1, Gq1_2, Gq1_3⟩ := hQ1
  replace N := Fr.app N Nq1
  have lt_cu_en1 : cu < en1 := Nat.lt_of_lt_of_le E.lt fq1_en
  have g_en1 : n0 ≤ en1 := Nat.le_trans (own_oldsz O) fq1_en
  have s_en1 : h0.size ≤ en1 := Nat.le_trans K.1 fq1_en
  replace E := E.keep Kq1
  clear F0
  clear F1
  clear F2
  replace O := O.keep Kq1 (allS ga all0)
  replace K := K.trans Kq1 (allS (Or.inl (own_g (i := 0) rfl)) all0)
  have hk : T1.heap.size ≤ T1.heap.size := Nat.le_refl _
  refine own_go (B := T1.setTop (mkF m 6 #[.val (.ref cu), .val (.ref li), .val (.int p2)] [])) (fun t k => st1.trans k) ?_
  obtain ⟨fs, hr, hrun, hended, hEnd⟩ := X1.leaveW hS hk (v := none) (fun _ => rfl)
  refine ⟨_, _, X1.returnOut hx Bd.returns (hb hby d_method_1_6) hr, hfin _ _ ⟨hrun, hended, _, _, rfl, ?_, hEnd.1, hEnd.2.1, hEnd.2.2.1, hEnd.2.2.2.mono (by decide) (by decide)⟩⟩
  show QPlI Z cu li p2 w5 h0 n0 _ T1.heap _
  exact ⟨en1, rfl, N, K, s_en1, Gq1_0, Gq1_1, Gq1_2, Gq1_3⟩
def QTex (Z : State) (cu : Addr) (p1 : Addr) (en : Addr) (h0 : Heap) (n0 : Nat) (v : Option Value) (h : Heap) (L : List Loc) : Prop := ∃ vv : Int32, v = some (.int vv) ∧ Fr n0 L ∧ h = h0 ∧ (p1 = en → vv = (1 : Int32)) ∧ (¬ p1 = en → vv = (0 : Int32))
theorem ef_Tex (m : MethodId) (cu : Addr) (p1 : Addr) : entryFrame m #[(.ref cu), (.ref p1)] 2 = mkF m 0 #[.val (.ref cu), .val (.ref p1)] [] := by first | (simp [entryFrame, mkF, argsToLocals, Value.category]; done) | rfl | (rfl)
set_option maxRecDepth 65536 in
set_option maxHeartbeats 40000000 in
theorem rmTex (l : Launch) (Z : State) (a0 : Array Value) (hw : ∀ d ∈ tables_1, d.before a0 Z = true) (ws : List Jvm.Cond) (cu : Addr) (p1 : Addr) (en : Addr) (h0 : Heap) (n0 : Nat) (O : Old Z n0 h0) (F : Fld Z h0 cu "com/example/nasute/nasute/sql/TokenCursor" "end" "Lcom/example/nasute/nasute/sql/Token;" (.ref en)) :
    MetFree l (⟨"com/example/nasute/nasute/sql/TokenCursor", "isTextEnd", "(Lcom/example/nasute/nasute/sql/Token;)Z"⟩ : MethodName) (head1 (Jvm.Cond.code (⟨"com/example/nasute/nasute/sql/TokenCursor", "isTextEnd", "(Lcom/example/nasute/nasute/sql/Token;)Z"⟩ : MethodName) prog_92_method_13_code 2 (some .boolean) :: ws) ({ frames := 0, cells := 0, slots := 0, locals := 0 } : Room)) (fun as_ U => as_ = #[(.ref cu), (.ref p1)] ∧ Z.Warmed39 U.vm ∧ U.heap = h0) (fun _ _ _ _ _ => True) (fun _ U oo_ U' => ∃ vv_ LL_, oo_ = .returned vv_ ∧ QTex Z cu p1 en h0 n0 vv_ U'.heap LL_ ∧ FrameEnd U oo_ U' LL_ ({ frames := 0, cells := 0, slots := 0, locals := 0 } : Room).cells ({ frames := 0, cells := 0, slots := 0, locals := 0 } : Room).slots) := by
  refine MetFree.of_bodySF (plainFor_of_name pn_10) hisR ?_
  intro p e s m args below meth c s₁ Bd hml0 hP hK
  obtain ⟨rfl, hZ, hh⟩ := hP
  have hx := Bd.exec
  have hby := Bd.bytes
  have hml : c.maxLocals = 2 := hml0
  have hown : s.vm.findClass "com/example/nasute/nasute/sql/TokenCursor" = some m.cls := findClass_of_methodNamed Bd.named
  have hnm := (name_of_methodNamed Bd.named Bd.method).1
  have X0 : Stand p l e ({ frames := 0, cells := 0, slots := 0, locals := 0 } : Room) s m #[(.ref cu), (.ref p1)] below meth c s₁ [] 0 0 := Stand.of_body Bd
  have e0 : s₁.heap = h0 := by rw [← hh, Bd.state]; rfl
  have N := Fr.nil n0
  have K : Keep h0 h0 [] := Keep.refl h0 _
  refine own_go (B := s₁.setTop (mkF m 0 #[.val (.ref cu), .val (.ref p1)] [])) (fun t k => castTop (ef_Tex m cu p1) k) ?_
  refine own_abs (fun P hfin => ?_)
  refine own_go (B := s₁.setTop (mkF m 2 #[.val (.ref cu), .val (.ref p1)] [(.ref cu), (.ref p1)])) (fun t k => ?_) ?_
  · show Steps p.tables e below (s₁.setTop (mkF m 0 #[.val (.ref cu), .val (.ref p1)] [])) _
    refine XS.aloadN X0.here hx rfl (hb hby d_prog_92_method_13_0) rfl rfl ?_
    show Steps p.tables e below (s₁.setTop (mkF m 1 #[.val (.ref cu), .val (.ref p1)] [(.ref p1)])) _
    refine XS.aloadN X0.here hx rfl (hb hby d_prog_92_method_13_1) rfl rfl ?_
    show Steps p.tables e below (s₁.setTop (mkF m 2 #[.val (.ref cu), .val (.ref p1)] [(.ref cu), (.ref p1)])) _
    exact k
  obtain ⟨T1, X1, e1, st1⟩ := getF X0 hx hZ hown (host := "") (Or.inl (hw _ (own_g (i := 102) rfl))) Via.refl e0 F (g := (mkF m 2 #[.val (.ref cu), .val (.ref p1)] [(.ref cu), (.ref p1)])) rfl rfl (hb hby d_prog_92_method_13_2)
  refine own_go (B := T1.setTop (mkF m 5 #[.val (.ref cu), .val (.ref p1)] [(.ref en), (.ref p1)])) st1 ?_
  by_cases se : p1 = en
  · refine own_go (B := T1.setTop (mkF m 13 #[.val (.ref cu), .val (.ref p1)] [(.int (1 : Int32))])) (fun t k => ?_) ?_
    · show Steps p.tables e below (T1.setTop (mkF m 5 #[.val (.ref cu), .val (.ref p1)] [(.ref en), (.ref p1)])) _
      refine Jvm.RoadKit.acmp (g := (mkF m 5 #[.val (.ref cu), .val (.ref p1)] [(.ref en), (.ref p1)])) X1 hx rfl rfl rfl (pc0 := 5) (pc' := 8) (same := true) rfl (hb hby d_prog_92_method_13_5) rfl (decide_eq_true (congrArg Value.ref se)) (by decide) (by decide) ?_
      show Steps p.tables e below (T1.setTop (mkF m 8 #[.val (.ref cu), .val (.ref p1)] [])) _
      refine XS.iconst X1.here hx rfl (hb hby d_prog_92_method_13_8) ?_
      show Steps p.tables e below (T1.setTop (mkF m 9 #[.val (.ref cu), .val (.ref p1)] [(.int (1 : Int32))])) _
      refine XS.goto X1.here hx rfl (pc0 := 9) (pc' := 13) rfl (hb hby d_prog_92_method_13_9) (by decide) (by decide) ?_
      show Steps p.tables e below (T1.setTop (mkF m 13 #[.val (.ref cu), .val (.ref p1)] [(.int (1 : Int32))])) _
      exact k
    obtain ⟨fs, hr, hrun, hended, hW, hsame⟩ := X1.leave (v := some (.int (1 : Int32))) (fun h => by rw [Bd.returns] at h; cases h)
    refine ⟨_, _, retN X1 hx (t := .boolean) Bd.returns (by simp) (hb hby d_prog_92_method_13_13) hr, hfin _ _ ⟨hrun, hended, _, _, rfl, ?_, ⟨_, rfl⟩, hW, hsame.mono (by decide) (by decide)⟩⟩
    show QTex Z cu p1 en h0 n0 _ T1.heap _
    exact ⟨(1 : Int32), rfl, N, e1, (fun _ => rfl), (fun qq_ => absurd (show _ from se) qq_)⟩
  · refine own_go (B := T1.setTop (mkF m 13 #[.val (.ref cu), .val (.ref p1)] [(.int (0 : Int32))])) (fun t k => ?_) ?_
    · show Steps p.tables e below (T1.setTop (mkF m 5 #[.val (.ref cu), .val (.ref p1)] [(.ref en), (.ref p1)])) _
      refine Jvm.RoadKit.acmp (g := (mkF m 5 #[.val (.ref cu), .val (.ref p1)] [(.ref en), (.ref p1)])) X1 hx rfl rfl rfl (pc0 := 5) (pc' := 12) (same := false) rfl (hb hby d_prog_92_method_13_5) rfl (decide_eq_false fun q => se (Value.ref.inj q)) (by decide) (by decide) ?_
      show Steps p.tables e below (T1.setTop (mkF m 12 #[.val (.ref cu), .val (.ref p1)] [])) _
      refine XS.iconst X1.here hx rfl (hb hby d_prog_92_method_13_12) ?_
      show Steps p.tables e below (T1.setTop (mkF m 13 #[.val (.ref cu), .val (.ref p1)] [(.int (0 : Int32))])) _
      exact k
    obtain ⟨fs, hr, hrun, hended, hW, hsame⟩ := X1.leave (v := some (.int (0 : Int32))) (fun h => by rw [Bd.returns] at h; cases h)
    refine ⟨_, _, retN X1 hx (t := .boolean) Bd.returns (by simp) (hb hby d_prog_92_method_13_13) hr, hfin _ _ ⟨hrun, hended, _, _, rfl, ?_, ⟨_, rfl⟩, hW, hsame.mono (by decide) (by decide)⟩⟩
    show QTex Z cu p1 en h0 n0 _ T1.heap _
    exact ⟨(0 : Int32), rfl, N, e1, (fun qq_ => absurd qq_ se), (fun _ => rfl)⟩
def QPk0 (Z : State) (cu : Addr) (li : Addr) (en : Addr) (ata : Int32) (p1 : Int32) (h0 : Heap) (n0 : Nat) (v : Option Value) (h : Heap) (L : List Loc) : Prop := ∃ r : Addr, v = some (.ref r) ∧ Fr n0 L ∧ h = h0 ∧ (own_in (ata + p1) (0 : Int32) → ¬ r = en) ∧ (¬ own_in (ata + p1) (0 : Int32) → r = en)
theorem ef_Pk0 (m : MethodId) (cu : Addr) (p1 : Int32) : entryFrame m #[(.ref cu), (.int p1)] 3 = mkF m 0 #[.val (.ref cu), .val (.int p1), .unset] [] := by first | (simp [entryFrame, mkF, argsToLocals, Value.category]; done) | rfl | (rfl)
set_option maxRecDepth 65536 in
set_option maxHeartbeats 40000000 in
theorem rmPk0 (l : Launch) (Z : State) (a0 : Array Value) (hw : ∀ d ∈ tables_1, d.before a0 Z = true) (ws : List Jvm.Cond) (cu : Addr) (li : Addr) (en : Addr) (ata : Int32) (p1 : Int32) (h0 : Heap) (n0 : Nat) (O : Old Z n0 h0) (E : Exa Z h0 cu "com/example/nasute/nasute/sql/TokenCursorIsTextEndPinLaw") (G0 : Fld Z h0 cu "com/example/nasute/nasute/sql/TokenCursor" "tokens" "Ljava/util/List;" (.ref li)) (G1 : Fld Z h0 cu "com/example/nasute/nasute/sql/TokenCursor" "end" "Lcom/example/nasute/nasute/sql/Token;" (.ref en)) (G2 : Fld Z h0 cu "com/example/nasute/nasute/sql/TokenCursor" "at" "I" (.int ata)) (El : Exa Z h0 li "java/util/ArrayList") (F3 : Fld Z h0 li "java/util/ArrayList" "size" "I" (.int (0 : Int32))) :
    MetFree l (⟨"com/example/nasute/nasute/sql/TokenCursor", "peek", "(I)Lcom/example/nasute/nasute/sql/Token;"⟩ : MethodName) (head1 (Jvm.Cond.code (⟨"com/example/nasute/nasute/sql/TokenCursor", "peek", "(I)Lcom/example/nasute/nasute/sql/Token;"⟩ : MethodName) prog_92_method_3_code 3 (some (.object "com/example/nasute/nasute/sql/Token")) :: ws) ({ frames := 1, cells := 0, slots := 0, locals := 13 } : Room)) (fun as_ U => as_ = #[(.ref cu), (.int p1)] ∧ Z.Warmed39 U.vm ∧ U.heap = h0) (fun _ _ _ _ _ => True) (fun _ U oo_ U' => ∃ vv_ LL_, oo_ = .returned vv_ ∧ QPk0 Z cu li en ata p1 h0 n0 vv_ U'.heap LL_ ∧ FrameEnd U oo_ U' LL_ ({ frames := 1, cells := 0, slots := 0, locals := 13 } : Room).cells ({ frames := 1, cells := 0, slots := 0, locals := 13 } : Room).slots) := by
  refine MetFree.of_bodySF (plainFor_of_name pn_10) hisR ?_
  intro p e s m args below meth c s₁ Bd hml0 hP hK
  obtain ⟨rfl, hZ, hh⟩ := hP
  have hx := Bd.exec
  have hby := Bd.bytes
  have hml : c.maxLocals = 3 := hml0
  have hown : s.vm.findClass "com/example/nasute/nasute/sql/TokenCursor" = some m.cls := findClass_of_methodNamed Bd.named
  have hnm := (name_of_methodNamed Bd.named Bd.method).1
  have X0 : Stand p l e ({ frames := 1, cells := 0, slots := 0, locals := 13 } : Room) s m #[(.ref cu), (.int p1)] below meth c s₁ [] 0 0 := Stand.of_body Bd
  have e0 : s₁.heap = h0 := by rw [← hh, Bd.state]; rfl
  have N := Fr.nil n0
  have K : Keep h0 h0 [] := Keep.refl h0 _
  refine own_go (B := s₁.setTop (mkF m 0 #[.val (.ref cu), .val (.int p1), .unset] [])) (fun t k => castTop (ef_Pk0 m cu p1) k) ?_
  refine own_abs (fun P hfin => ?_)
  refine own_go (B := s₁.setTop (mkF m 1 #[.val (.ref cu), .val (.int p1), .unset] [(.ref cu)])) (fun t k => ?_) ?_
  · show Steps p.tables e below (s₁.setTop (mkF m 0 #[.val (.ref cu), .val (.int p1), .unset] [])) _
    refine XS.aloadN X0.here hx rfl (hb hby d_prog_92_method_3_0) rfl rfl ?_
    show Steps p.tables e below (s₁.setTop (mkF m 1 #[.val (.ref cu), .val (.int p1), .unset] [(.ref cu)])) _
    exact k
  obtain ⟨T1, X1, e1, st1⟩ := getF X0 hx hZ hown (host := "") (Or.inl (hw _ (own_g (i := 114) rfl))) Via.refl e0 G2 (g := (mkF m 1 #[.val (.ref cu), .val (.int p1), .unset] [(.ref cu)])) rfl rfl (hb hby d_prog_92_method_3_1)
  refine own_go (B := T1.setTop (mkF m 4 #[.val (.ref cu), .val (.int p1), .unset] [(.int ata)])) st1 ?_
  refine own_go (B := T1.setTop (mkF m 7 #[.val (.ref cu), .val (.int p1), .val (.int (ata + p1))] [])) (fun t k => ?_) ?_
  · show Steps p.tables e below (T1.setTop (mkF m 4 #[.val (.ref cu), .val (.int p1), .unset] [(.int ata)])) _
    refine XS.iloadN X1.here hx rfl (hb hby d_prog_92_method_3_4) rfl ?_
    show Steps p.tables e below (T1.setTop (mkF m 5 #[.val (.ref cu), .val (.int p1), .unset] [(.int p1), (.int ata)])) _
    refine XS.iadd X1.here hx rfl (hb hby d_prog_92_method_3_5) rfl ?_
    show Steps p.tables e below (T1.setTop (mkF m 6 #[.val (.ref cu), .val (.int p1), .unset] [(.int (ata + p1))])) _
    refine XS.istoreN X1.here hx rfl (hb hby d_prog_92_method_3_6) rfl (l' := #[.val (.ref cu), .val (.int p1), .val (.int (ata + p1))]) rfl ?_
    show Steps p.tables e below (T1.setTop (mkF m 7 #[.val (.ref cu), .val (.int p1), .val (.int (ata + p1))] [])) _
    exact k
  obtain ⟨ix, hix⟩ : ∃ z : Int32, z = (ata + p1) := ⟨_, rfl⟩
  rw [← hix]
  refine own_go (B := T1.setTop (mkF m 8 #[.val (.ref cu), .val (.int p1), .val (.int ix)] [(.int ix)])) (fun t k => ?_) ?_
  · show Steps p.tables e below (T1.setTop (mkF m 7 #[.val (.ref cu), .val (.int p1), .val (.int ix)] [])) _
    refine XS.iloadN X1.here hx rfl (hb hby d_prog_92_method_3_7) rfl ?_
    show Steps p.tables e below (T1.setTop (mkF m 8 #[.val (.ref cu), .val (.int p1), .val (.int ix)] [(.int ix)])) _
    exact k
  by_cases s8 : ix < (0 : Int32)
  · refine own_go (B := T1.setTop (mkF m 41 #[.val (.ref cu), .val (.int p1), .val (.int ix)] [(.ref cu)])) (fun t k => ?_) ?_
    · show Steps p.tables e below (T1.setTop (mkF m 8 #[.val (.ref cu), .val (.int p1), .val (.int ix)] [(.int ix)])) _
      refine XS.ifYes X1.here hx rfl (pc0 := 8) (pc' := 40) rfl (hb hby d_prog_92_method_3_8) rfl ((if0 _ _).trans (tlt s8).1) (by decide) (by decide) ?_
      show Steps p.tables e below (T1.setTop (mkF m 40 #[.val (.ref cu), .val (.int p1), .val (.int ix)] [])) _
      refine XS.aloadN X1.here hx rfl (hb hby d_prog_92_method_3_40) rfl rfl ?_
      show Steps p.tables e below (T1.setTop (mkF m 41 #[.val (.ref cu), .val (.int p1), .val (.int ix)] [(.ref cu)])) _
      exact k
    obtain ⟨T2, X2, e2, st2⟩ := getF X1 hx hZ hown (host := "") (Or.inl (hw _ (own_g (i := 102) rfl))) Via.refl e1 G1 (g := (mkF m 41 #[.val (.ref cu), .val (.int p1), .val (.int ix)] [(.ref cu)])) rfl rfl (hb hby d_prog_92_method_3_41)
    refine own_go (B := T2.setTop (mkF m 44 #[.val (.ref cu), .val (.int p1), .val (.int ix)] [(.ref en)])) st2 ?_
    obtain ⟨fs, hr, hrun, hended, hW, hsame⟩ := X2.leave (v := some (.ref en)) (fun h => by rw [Bd.returns] at h; cases h)
    refine ⟨_, _, own_retA X2 hx rfl Bd.returns rfl (hb hby d_prog_92_method_3_44) hr, hfin _ _ ⟨hrun, hended, _, _, rfl, ?_, ⟨_, rfl⟩, hW, hsame.mono (by decide) (by decide)⟩⟩
    show QPk0 Z cu li en ata p1 h0 n0 _ T2.heap _
    exact ⟨en, rfl, N, e2, (fun qq_ => absurd (hix ▸ s8) qq_.1), (fun _ => rfl)⟩
  · refine own_go (B := T1.setTop (mkF m 13 #[.val (.ref cu), .val (.int p1), .val (.int ix)] [(.ref cu), (.int ix)])) (fun t k => ?_) ?_
    · show Steps p.tables e below (T1.setTop (mkF m 8 #[.val (.ref cu), .val (.int p1), .val (.int ix)] [(.int ix)])) _
      refine XS.ifNo X1.here hx rfl (hb hby d_prog_92_method_3_8) rfl ((if0 _ _).trans (flt s8).1) ?_
      show Steps p.tables e below (T1.setTop (mkF m 11 #[.val (.ref cu), .val (.int p1), .val (.int ix)] [])) _
      refine XS.iloadN X1.here hx rfl (hb hby d_prog_92_method_3_11) rfl ?_
      show Steps p.tables e below (T1.setTop (mkF m 12 #[.val (.ref cu), .val (.int p1), .val (.int ix)] [(.int ix)])) _
      refine XS.aloadN X1.here hx rfl (hb hby d_prog_92_method_3_12) rfl rfl ?_
      show Steps p.tables e below (T1.setTop (mkF m 13 #[.val (.ref cu), .val (.int p1), .val (.int ix)] [(.ref cu), (.int ix)])) _
      exact k
    obtain ⟨T4, X4, e4, st4⟩ := getF X1 hx hZ hown (host := "") (Or.inl (hw _ (own_g (i := 93) rfl))) Via.refl e1 G0 (g := (mkF m 13 #[.val (.ref cu), .val (.int p1), .val (.int ix)] [(.ref cu), (.int ix)])) rfl rfl (hb hby d_prog_92_method_3_13)
    refine own_go (B := T4.setTop (mkF m 16 #[.val (.ref cu), .val (.int p1), .val (.int ix)] [(.ref li), (.int ix)])) st4 ?_
    -- pc 16: java/util/ArrayList.size
    obtain ⟨cq5, kq5, q5a, q5b, q5c⟩ := isOf hZ e4 El
    obtain ⟨_, _, ⟨T5, L5, k5, n5⟩, -, X5, ⟨Lc5, hQ5, l5, y5, z5⟩, st5⟩ := X4.interfaceBack hx (xi := (⟨"java/util/List", "size", "()I"⟩ : MethodName)) (y := (⟨"java/util/ArrayList", "size", "()I"⟩ : MethodName)) hown (mvT hZ (hw _ (own_g (i := 116) rfl))) (mvT hZ (hw _ (own_g (i := 117) rfl))) (mvT hZ (hw _ (own_g (i := 118) rfl))) (mvT hZ (hw _ (own_g (i := 119) rfl))) (mvT hZ (hw _ (own_g (i := 120) rfl))) (mvT hZ (hw _ (own_g (i := 121) rfl))) (mvT hZ (hw _ (own_g (i := 122) rfl))) (mvT hZ (hw _ (own_g (i := 123) rfl))) (by decide) (backOf (W := 1) (rmSz0 l Z a0 hw [] li h0 n0 O F3) hZ (hw _ (own_g (i := 124) rfl)) (hw _ (own_g (i := 60) rfl)) (by decide) (by decide)) q5a q5b q5c (g := (mkF m 16 #[.val (.ref cu), .val (.int p1), .val (.int ix)] [(.ref li), (.int ix)])) rfl (by rw [hml]; rfl) (Steps.refl _) (argsL := []) (rest := [(.int ix)]) (lenOf pd_14 rfl) rfl (by show 2 * 0 + _ ≤ _; exact Nat.le_of_eq rfl) (hb hby d_prog_92_method_3_16) (fun _ hWm => ⟨rfl, e4, (by decide : 0 + 0 ≤ _), (by decide : 0 + 0 ≤ _)⟩)
    dsimp only [Pt.U, Pt.locs, Pt.cells, Pt.slots] at X5 l5 y5 z5 st5 hQ5
    subst l5 y5 z5
    obtain ⟨rfl, Nq5, Kq5⟩ := hQ5
    replace N := Fr.app N Nq5
    refine own_go (B := T5.setTop (mkF m 21 #[.val (.ref cu), .val (.int p1), .val (.int ix)] [(.int (0 : Int32)), (.int ix)])) (fun t k => st5.trans k) ?_
    refine own_go (B := T5.setTop (mkF m 41 #[.val (.ref cu), .val (.int p1), .val (.int ix)] [(.ref cu)])) (fun t k => ?_) ?_
    · show Steps p.tables e below (T5.setTop (mkF m 21 #[.val (.ref cu), .val (.int p1), .val (.int ix)] [(.int (0 : Int32)), (.int ix)])) _
      refine XS.icmpYes X5.here hx rfl (pc0 := 21) (pc' := 40) rfl (hb hby d_prog_92_method_3_21) rfl (flt s8).2.1 (by decide) (by decide) ?_
      show Steps p.tables e below (T5.setTop (mkF m 40 #[.val (.ref cu), .val (.int p1), .val (.int ix)] [])) _
      refine XS.aloadN X5.here hx rfl (hb hby d_prog_92_method_3_40) rfl rfl ?_
      show Steps p.tables e below (T5.setTop (mkF m 41 #[.val (.ref cu), .val (.int p1), .val (.int ix)] [(.ref cu)])) _
      exact k
    obtain ⟨T6, X6, e6, st6⟩ := getF X5 hx hZ hown (host := "") (Or.inl (hw _ (own_g (i := 102) rfl))) Via.refl Kq5 G1 (g := (mkF m 41 #[.val (.ref cu), .val (.int p1), .val (.int ix)] [(.ref cu)])) rfl rfl (hb hby d_prog_92_method_3_41)
    refine own_go (B := T6.setTop (mkF m 44 #[.val (.ref cu), .val (.int p1), .val (.int ix)] [(.ref en)])) st6 ?_
    obtain ⟨fs, hr, hrun, hended, hW, hsame⟩ := X6.leave (v := some (.ref en)) (fun h => by rw [Bd.returns] at h; cases h)
    refine ⟨_, _, own_retA X6 hx rfl Bd.returns rfl (hb hby d_prog_92_method_3_44) hr, hfin _ _ ⟨hrun, hended, _, _, rfl, ?_, ⟨_, rfl⟩, hW, hsame.mono (by decide) (by decide)⟩⟩
    show QPk0 Z cu li en ata p1 h0 n0 _ T6.heap _
    exact ⟨en, rfl, N, e6, (fun qq_ => absurd qq_.2 (hix ▸ s8)), (fun _ => rfl)⟩
def QPz0 (Z : State) (cu : Addr) (li : Addr) (en : Addr) (ata : Int32) (h0 : Heap) (n0 : Nat) (v : Option Value) (h : Heap) (L : List Loc) : Prop := ∃ r : Addr, v = some (.ref r) ∧ Fr n0 L ∧ h = h0 ∧ (own_in (ata + (0 : Int32)) (0 : Int32) → ¬ r = en) ∧ (¬ own_in (ata + (0 : Int32)) (0 : Int32) → r = en)
theorem ef_Pz0 (m : MethodId) (cu : Addr) : entryFrame m #[(.ref cu)] 1 = mkF m 0 #[.val (.ref cu)] [] := by first | (simp [entryFrame, mkF, argsToLocals, Value.category]; done) | rfl | (rfl)
set_option maxRecDepth 65536 in
set_option maxHeartbeats 40000000 in
theorem rmPz0 (l : Launch) (Z : State) (a0 : Array Value) (hw : ∀ d ∈ tables_1, d.before a0 Z = true) (ws : List Jvm.Cond) (cu : Addr) (li : Addr) (en : Addr) (ata : Int32) (h0 : Heap) (n0 : Nat) (O : Old Z n0 h0) (E : Exa Z h0 cu "com/example/nasute/nasute/sql/TokenCursorIsTextEndPinLaw") (G0 : Fld Z h0 cu "com/example/nasute/nasute/sql/TokenCursor" "tokens" "Ljava/util/List;" (.ref li)) (G1 : Fld Z h0 cu "com/example/nasute/nasute/sql/TokenCursor" "end" "Lcom/example/nasute/nasute/sql/Token;" (.ref en)) (G2 : Fld Z h0 cu "com/example/nasute/nasute/sql/TokenCursor" "at" "I" (.int ata)) (El : Exa Z h0 li "java/util/ArrayList") (F3 : Fld Z h0 li "java/util/ArrayList" "size" "I" (.int (0 : Int32))) :
    MetFree l (⟨"com/example/nasute/nasute/sql/TokenCursor", "peek", "()Lcom/example/nasute/nasute/sql/Token;"⟩ : MethodName) (head1 (Jvm.Cond.code (⟨"com/example/nasute/nasute/sql/TokenCursor", "peek", "()Lcom/example/nasute/nasute/sql/Token;"⟩ : MethodName) prog_92_method_2_code 1 (some (.object "com/example/nasute/nasute/sql/Token")) :: ws) ({ frames := 2, cells := 0, slots := 0, locals := 27 } : Room)) (fun as_ U => as_ = #[(.ref cu)] ∧ Z.Warmed39 U.vm ∧ U.heap = h0) (fun _ _ _ _ _ => True) (fun _ U oo_ U' => ∃ vv_ LL_, oo_ = .returned vv_ ∧ QPz0 Z cu li en ata h0 n0 vv_ U'.heap LL_ ∧ FrameEnd U oo_ U' LL_ ({ frames := 2, cells := 0, slots := 0, locals := 27 } : Room).cells ({ frames := 2, cells := 0, slots := 0, locals := 27 } : Room).slots) := by
  refine MetFree.of_bodySF (plainFor_of_name pn_10) hisR ?_
  intro p e s m args below meth c s₁ Bd hml0 hP hK
  obtain ⟨rfl, hZ, hh⟩ := hP
  have hx := Bd.exec
  have hby := Bd.bytes
  have hml : c.maxLocals = 1 := hml0
  have hown : s.vm.findClass "com/example/nasute/nasute/sql/TokenCursor" = some m.cls := findClass_of_methodNamed Bd.named
  have hnm := (name_of_methodNamed Bd.named Bd.method).1
  have X0 : Stand p l e ({ frames := 2, cells := 0, slots := 0, locals := 27 } : Room) s m #[(.ref cu)] below meth c s₁ [] 0 0 := Stand.of_body Bd
  have e0 : s₁.heap = h0 := by rw [← hh, Bd.state]; rfl
  have N := Fr.nil n0
  have K : Keep h0 h0 [] := Keep.refl h0 _
  refine own_go (B := s₁.setTop (mkF m 0 #[.val (.ref cu)] [])) (fun t k => castTop (ef_Pz0 m cu) k) ?_
  refine own_abs (fun P hfin => ?_)
  refine own_go (B := s₁.setTop (mkF m 2 #[.val (.ref cu)] [(.int (0 : Int32)), (.ref cu)])) (fun t k => ?_) ?_
  · show Steps p.tables e below (s₁.setTop (mkF m 0 #[.val (.ref cu)] [])) _
    refine XS.aloadN X0.here hx rfl (hb hby d_prog_92_method_2_0) rfl rfl ?_
    show Steps p.tables e below (s₁.setTop (mkF m 1 #[.val (.ref cu)] [(.ref cu)])) _
    refine XS.iconst X0.here hx rfl (hb hby d_prog_92_method_2_1) ?_
    show Steps p.tables e below (s₁.setTop (mkF m 2 #[.val (.ref cu)] [(.int (0 : Int32)), (.ref cu)])) _
    exact k
  -- pc 2: com/example/nasute/nasute/sql/TokenCursor.peek
  obtain ⟨cq1, kq1, q1a, q1b, q1c⟩ := isOf hZ e0 E
  obtain ⟨_, _, ⟨T1, L1, k1, n1⟩, -, X1, ⟨Lc1, hQ1, l1, y1, z1⟩, st1⟩ := X0.virtualBack hx (y := (⟨"com/example/nasute/nasute/sql/TokenCursor", "peek", "(I)Lcom/example/nasute/nasute/sql/Token;"⟩ : MethodName)) (z := (⟨"com/example/nasute/nasute/sql/TokenCursor", "peek", "(I)Lcom/example/nasute/nasute/sql/Token;"⟩ : MethodName)) hown (mvT hZ (hw _ (own_g (i := 180) rfl))) (mvT hZ (hw _ (own_g (i := 110) rfl))) (notFace_of_selects (args := #[]) (mvT hZ (hw _ (own_g (i := 181) rfl)))) (mvT hZ (hw _ (own_g (i := 181) rfl))) (mvT hZ (hw _ (own_g (i := 111) rfl))) (by decide) (backOf (W := 0) (rmPk0 l Z a0 hw [] cu li en ata (0 : Int32) h0 n0 O E G0 G1 G2 El F3) hZ (hw _ (own_g (i := 113) rfl)) (hw _ (own_g (i := 90) rfl)) (by decide) (by decide)) q1a q1c (g := (mkF m 2 #[.val (.ref cu)] [(.int (0 : Int32)), (.ref cu)])) rfl (by rw [hml]; rfl) (Steps.refl _) (argsL := [(.int (0 : Int32))]) (rest := []) (lenOf pd_15 rfl) rfl (by show 2 * 0 + _ ≤ _; exact Nat.le_of_eq rfl) (hb hby d_prog_92_method_2_2) (fun _ hWm => ⟨rfl, e0, (by decide : 0 + 0 ≤ _), (by decide : 0 + 0 ≤ _)⟩)
  dsimp only [Pt.U, Pt.locs, Pt.cells, Pt.slots] at X1 l1 y1 z1 st1 hQ1
  subst l1 y1 z1
  obtain ⟨r1, rfl, Nq1, Kq1, cq1_0, cq1_1⟩ := hQ1
  replace N := Fr.app N Nq1
  refine own_go (B := T1.setTop (mkF m 5 #[.val (.ref cu)] [(.ref r1)])) (fun t k => st1.trans k) ?_
  obtain ⟨fs, hr, hrun, hended, hW, hsame⟩ := X1.leave (v := some (.ref r1)) (fun h => by rw [Bd.returns] at h; cases h)
  refine ⟨_, _, own_retA X1 hx rfl Bd.returns rfl (hb hby d_prog_92_method_2_5) hr, hfin _ _ ⟨hrun, hended, _, _, rfl, ?_, ⟨_, rfl⟩, hW, hsame.mono (by decide) (by decide)⟩⟩
  show QPz0 Z cu li en ata h0 n0 _ T1.heap _
  exact ⟨r1, rfl, N, Kq1, cq1_0, cq1_1⟩
def QNx00 (Z : State) (cu : Addr) (li : Addr) (en : Addr) (h0 : Heap) (n0 : Nat) (v : Option Value) (h : Heap) (L : List Loc) : Prop := ∃ r : Addr, v = some (.ref r) ∧ Fr n0 L ∧ h = h0
theorem ef_Nx00 (m : MethodId) (cu : Addr) : entryFrame m #[(.ref cu)] 2 = mkF m 0 #[.val (.ref cu), .unset] [] := by first | (simp [entryFrame, mkF, argsToLocals, Value.category]; done) | rfl | (rfl)
set_option maxRecDepth 65536 in
set_option maxHeartbeats 40000000 in
theorem rmNx00 (l : Launch) (Z : State) (a0 : Array Value) (hw : ∀ d ∈ tables_1, d.before a0 Z = true) (ws : List Jvm.Cond) (cu : Addr) (li : Addr) (en : Addr) (h0 : Heap) (n0 : Nat) (O : Old Z n0 h0) (E : Exa Z h0 cu "com/example/nasute/nasute/sql/TokenCursorIsTextEndPinLaw") (G0 : Fld Z h0 cu "com/example/nasute/nasute/sql/TokenCursor" "tokens" "Ljava/util/List;" (.ref li)) (G1 : Fld Z h0 cu "com/example/nasute/nasute/sql/TokenCursor" "end" "Lcom/example/nasute/nasute/sql/Token;" (.ref en)) (G2 : Fld Z h0 cu "com/example/nasute/nasute/sql/TokenCursor" "at" "I" (.int (0 : Int32))) (El : Exa Z h0 li "java/util/ArrayList") (F3 : Fld Z h0 li "java/util/ArrayList" "size" "I" (.int (0 : Int32))) (ga : n0 ≤ cu) (nlc : li ≠ cu) :
    MetFree l (⟨"com/example/nasute/nasute/sql/TokenCursor", "next", "()Lcom/example/nasute/nasute/sql/Token;"⟩ : MethodName) (head1 (Jvm.Cond.code (⟨"com/example/nasute/nasute/sql/TokenCursor", "next", "()Lcom/example/nasute/nasute/sql/Token;"⟩ : MethodName) prog_92_method_4_code 2 (some (.object "com/example/nasute/nasute/sql/Token")) :: ws) ({ frames := 3, cells := 0, slots := 0, locals := 39 } : Room)) (fun as_ U => as_ = #[(.ref cu)] ∧ Z.Warmed39 U.vm ∧ U.heap = h0) (fun _ _ _ _ _ => True) (fun _ U oo_ U' => ∃ vv_ LL_, oo_ = .returned vv_ ∧ QNx00 Z cu li en h0 n0 vv_ U'.heap LL_ ∧ FrameEnd U oo_ U' LL_ ({ frames := 3, cells := 0, slots := 0, locals := 39 } : Room).cells ({ frames := 3, cells := 0, slots := 0, locals := 39 } : Room).slots) := by
  refine MetFree.of_bodySF (plainFor_of_name pn_10) hisR ?_
  intro p e s m args below meth c s₁ Bd hml0 hP hK
  obtain ⟨rfl, hZ, hh⟩ := hP
  have hx := Bd.exec
  have hby := Bd.bytes
  have hml : c.maxLocals = 2 := hml0
  have hown : s.vm.findClass "com/example/nasute/nasute/sql/TokenCursor" = some m.cls := findClass_of_methodNamed Bd.named
  have hnm := (name_of_methodNamed Bd.named Bd.method).1
  have X0 : Stand p l e ({ frames := 3, cells := 0, slots := 0, locals := 39 } : Room) s m #[(.ref cu)] below meth c s₁ [] 0 0 := Stand.of_body Bd
  have e0 : s₁.heap = h0 := by rw [← hh, Bd.state]; rfl
  have N := Fr.nil n0
  have K : Keep h0 h0 [] := Keep.refl h0 _
  refine own_go (B := s₁.setTop (mkF m 0 #[.val (.ref cu), .unset] [])) (fun t k => castTop (ef_Nx00 m cu) k) ?_
  refine own_abs (fun P hfin => ?_)
  refine own_go (B := s₁.setTop (mkF m 1 #[.val (.ref cu), .unset] [(.ref cu)])) (fun t k => ?_) ?_
  · show Steps p.tables e below (s₁.setTop (mkF m 0 #[.val (.ref cu), .unset] [])) _
    refine XS.aloadN X0.here hx rfl (hb hby d_prog_92_method_4_0) rfl rfl ?_
    show Steps p.tables e below (s₁.setTop (mkF m 1 #[.val (.ref cu), .unset] [(.ref cu)])) _
    exact k
  -- pc 1: com/example/nasute/nasute/sql/TokenCursor.peek
  obtain ⟨cq1, kq1, q1a, q1b, q1c⟩ := isOf hZ e0 E
  obtain ⟨_, _, ⟨T1, L1, k1, n1⟩, -, X1, ⟨Lc1, hQ1, l1, y1, z1⟩, st1⟩ := X0.virtualBack hx (y := (⟨"com/example/nasute/nasute/sql/TokenCursor", "peek", "()Lcom/example/nasute/nasute/sql/Token;"⟩ : MethodName)) (z := (⟨"com/example/nasute/nasute/sql/TokenCursor", "peek", "()Lcom/example/nasute/nasute/sql/Token;"⟩ : MethodName)) hown (mvT hZ (hw _ (own_g (i := 175) rfl))) (mvT hZ (hw _ (own_g (i := 176) rfl))) (notFace_of_selects (args := #[]) (mvT hZ (hw _ (own_g (i := 178) rfl)))) (mvT hZ (hw _ (own_g (i := 178) rfl))) (mvT hZ (hw _ (own_g (i := 177) rfl))) (by decide) (backOf (W := 0) (rmPz0 l Z a0 hw [] cu li en (0 : Int32) h0 n0 O E G0 G1 G2 El F3) hZ (hw _ (own_g (i := 179) rfl)) (hw _ (own_g (i := 90) rfl)) (by decide) (by decide)) q1a q1c (g := (mkF m 1 #[.val (.ref cu), .unset] [(.ref cu)])) rfl (by rw [hml]; rfl) (Steps.refl _) (argsL := []) (rest := []) (lenOf pd_16 rfl) rfl (by show 2 * 0 + _ ≤ _; exact Nat.le_of_eq rfl) (hb hby d_prog_92_method_4_1) (fun _ hWm => ⟨rfl, e0, (by decide : 0 + 0 ≤ _), (by decide : 0 + 0 ≤ _)⟩)
  dsimp only [Pt.U, Pt.locs, Pt.cells, Pt.slots] at X1 l1 y1 z1 st1 hQ1
  subst l1 y1 z1
  obtain ⟨r1, rfl, Nq1, Kq1, cq1_0, cq1_1⟩ := hQ1
  replace N := Fr.app N Nq1
  refine own_go (B := T1.setTop (mkF m 4 #[.val (.ref cu), .unset] [(.ref r1)])) (fun t k => st1.trans k) ?_
  refine own_go (B := T1.setTop (mkF m 7 #[.val (.ref cu), .val (.ref r1)] [(.ref cu), (.ref r1)])) (fun t k => ?_) ?_
  · show Steps p.tables e below (T1.setTop (mkF m 4 #[.val (.ref cu), .unset] [(.ref r1)])) _
    refine XS.astoreN X1.here hx rfl (hb hby d_prog_92_method_4_4) rfl rfl (l' := #[.val (.ref cu), .val (.ref r1)]) rfl ?_
    show Steps p.tables e below (T1.setTop (mkF m 5 #[.val (.ref cu), .val (.ref r1)] [])) _
    refine XS.aloadN X1.here hx rfl (hb hby d_prog_92_method_4_5) rfl rfl ?_
    show Steps p.tables e below (T1.setTop (mkF m 6 #[.val (.ref cu), .val (.ref r1)] [(.ref r1)])) _
    refine XS.aloadN X1.here hx rfl (hb hby d_prog_92_method_4_6) rfl rfl ?_
    show Steps p.tables e below (T1.setTop (mkF m 7 #[.val (.ref cu), .val (.ref r1)] [(.ref cu), (.ref r1)])) _
    exact k
  obtain ⟨T2, X2, e2, st2⟩ := getF X1 hx hZ hown (host := "") (Or.inl (hw _ (own_g (i := 102) rfl))) Via.refl Kq1 G1 (g := (mkF m 7 #[.val (.ref cu), .val (.ref r1)] [(.ref cu), (.ref r1)])) rfl rfl (hb hby d_prog_92_method_4_7)
  refine own_go (B := T2.setTop (mkF m 10 #[.val (.ref cu), .val (.ref r1)] [(.ref en), (.ref r1)])) st2 ?_
  refine own_go (B := T2.setTop (mkF m 24 #[.val (.ref cu), .val (.ref r1)] [(.ref r1)])) (fun t k => ?_) ?_
  · show Steps p.tables e below (T2.setTop (mkF m 10 #[.val (.ref cu), .val (.ref r1)] [(.ref en), (.ref r1)])) _
    refine Jvm.RoadKit.acmp (g := (mkF m 10 #[.val (.ref cu), .val (.ref r1)] [(.ref en), (.ref r1)])) X2 hx rfl rfl rfl (pc0 := 10) (pc' := 23) (same := true) rfl (hb hby d_prog_92_method_4_10) rfl (decide_eq_true (congrArg Value.ref (cq1_1 (by decide)))) (by decide) (by decide) ?_
    show Steps p.tables e below (T2.setTop (mkF m 23 #[.val (.ref cu), .val (.ref r1)] [])) _
    refine XS.aloadN X2.here hx rfl (hb hby d_prog_92_method_4_23) rfl rfl ?_
    show Steps p.tables e below (T2.setTop (mkF m 24 #[.val (.ref cu), .val (.ref r1)] [(.ref r1)])) _
    exact k
  obtain ⟨fs, hr, hrun, hended, hW, hsame⟩ := X2.leave (v := some (.ref r1)) (fun h => by rw [Bd.returns] at h; cases h)
  refine ⟨_, _, own_retA X2 hx rfl Bd.returns rfl (hb hby d_prog_92_method_4_24) hr, hfin _ _ ⟨hrun, hended, _, _, rfl, ?_, ⟨_, rfl⟩, hW, hsame.mono (by decide) (by decide)⟩⟩
  show QNx00 Z cu li en h0 n0 _ T2.heap _
  exact ⟨r1, rfl, N, e2⟩
def QPk1 (Z : State) (cu : Addr) (li : Addr) (en : Addr) (da : Addr) (kda : ClassId) (t0 : Addr) (ata : Int32) (p1 : Int32) (h0 : Heap) (n0 : Nat) (v : Option Value) (h : Heap) (L : List Loc) : Prop := ∃ r : Addr, v = some (.ref r) ∧ Fr n0 L ∧ h = h0 ∧ (own_in (ata + p1) (1 : Int32) → ¬ r = en) ∧ (¬ own_in (ata + p1) (1 : Int32) → r = en)
theorem ef_Pk1 (m : MethodId) (cu : Addr) (p1 : Int32) : entryFrame m #[(.ref cu), (.int p1)] 3 = mkF m 0 #[.val (.ref cu), .val (.int p1), .unset] [] := by first | (simp [entryFrame, mkF, argsToLocals, Value.category]; done) | rfl | (rfl)
set_option maxRecDepth 65536 in
set_option maxHeartbeats 40000000 in
theorem rmPk1 (l : Launch) (Z : State) (a0 : Array Value) (hw : ∀ d ∈ tables_1, d.before a0 Z = true) (ws : List Jvm.Cond) (cu : Addr) (li : Addr) (en : Addr) (da : Addr) (kda : ClassId) (t0 : Addr) (ata : Int32) (p1 : Int32) (h0 : Heap) (n0 : Nat) (O : Old Z n0 h0) (E : Exa Z h0 cu "com/example/nasute/nasute/sql/TokenCursorIsTextEndPinLaw") (G0 : Fld Z h0 cu "com/example/nasute/nasute/sql/TokenCursor" "tokens" "Ljava/util/List;" (.ref li)) (G1 : Fld Z h0 cu "com/example/nasute/nasute/sql/TokenCursor" "end" "Lcom/example/nasute/nasute/sql/Token;" (.ref en)) (G2 : Fld Z h0 cu "com/example/nasute/nasute/sql/TokenCursor" "at" "I" (.int ata)) (El : Exa Z h0 li "java/util/ArrayList") (F3 : Fld Z h0 li "java/util/ArrayList" "size" "I" (.int (1 : Int32))) (F2 : Fld Z h0 li "java/util/ArrayList" "elementData" "[Ljava/lang/Object;" (.ref da)) (V1 : Arv Z h0 da kda (.object "java/lang/Object") (10 : Int32) [(.ref t0), .null, .null, .null, .null, .null, .null, .null, .null, .null] .null) (E_t0 : Exa Z h0 t0 "com/example/nasute/nasute/sql/Token") (ne_t0 : t0 ≠ en) :
    MetFree l (⟨"com/example/nasute/nasute/sql/TokenCursor", "peek", "(I)Lcom/example/nasute/nasute/sql/Token;"⟩ : MethodName) (head1 (Jvm.Cond.code (⟨"com/example/nasute/nasute/sql/TokenCursor", "peek", "(I)Lcom/example/nasute/nasute/sql/Token;"⟩ : MethodName) prog_92_method_3_code 3 (some (.object "com/example/nasute/nasute/sql/Token")) :: ws) ({ frames := 3, cells := 0, slots := 0, locals := 40 } : Room)) (fun as_ U => as_ = #[(.ref cu), (.int p1)] ∧ Z.Warmed39 U.vm ∧ U.heap = h0) (fun _ _ _ _ _ => True) (fun _ U oo_ U' => ∃ vv_ LL_, oo_ = .returned vv_ ∧ QPk1 Z cu li en da kda t0 ata p1 h0 n0 vv_ U'.heap LL_ ∧ FrameEnd U oo_ U' LL_ ({ frames := 3, cells := 0, slots := 0, locals := 40 } : Room).cells ({ frames := 3, cells := 0, slots := 0, locals := 40 } : Room).slots) := by
  refine MetFree.of_bodySF (plainFor_of_name pn_10) hisR ?_
  intro p e s m args below meth c s₁ Bd hml0 hP hK
  obtain ⟨rfl, hZ, hh⟩ := hP
  have hx := Bd.exec
  have hby := Bd.bytes
  have hml : c.maxLocals = 3 := hml0
  have hown : s.vm.findClass "com/example/nasute/nasute/sql/TokenCursor" = some m.cls := findClass_of_methodNamed Bd.named
  have hnm := (name_of_methodNamed Bd.named Bd.method).1
  have X0 : Stand p l e ({ frames := 3, cells := 0, slots := 0, locals := 40 } : Room) s m #[(.ref cu), (.int p1)] below meth c s₁ [] 0 0 := Stand.of_body Bd
  have e0 : s₁.heap = h0 := by rw [← hh, Bd.state]; rfl
  have N := Fr.nil n0
  have K : Keep h0 h0 [] := Keep.refl h0 _
  refine own_go (B := s₁.setTop (mkF m 0 #[.val (.ref cu), .val (.int p1), .unset] [])) (fun t k => castTop (ef_Pk1 m cu p1) k) ?_
  refine own_abs (fun P hfin => ?_)
  refine own_go (B := s₁.setTop (mkF m 1 #[.val (.ref cu), .val (.int p1), .unset] [(.ref cu)])) (fun t k => ?_) ?_
  · show Steps p.tables e below (s₁.setTop (mkF m 0 #[.val (.ref cu), .val (.int p1), .unset] [])) _
    refine XS.aloadN X0.here hx rfl (hb hby d_prog_92_method_3_0) rfl rfl ?_
    show Steps p.tables e below (s₁.setTop (mkF m 1 #[.val (.ref cu), .val (.int p1), .unset] [(.ref cu)])) _
    exact k
  obtain ⟨T1, X1, e1, st1⟩ := getF X0 hx hZ hown (host := "") (Or.inl (hw _ (own_g (i := 114) rfl))) Via.refl e0 G2 (g := (mkF m 1 #[.val (.ref cu), .val (.int p1), .unset] [(.ref cu)])) rfl rfl (hb hby d_prog_92_method_3_1)
  refine own_go (B := T1.setTop (mkF m 4 #[.val (.ref cu), .val (.int p1), .unset] [(.int ata)])) st1 ?_
  refine own_go (B := T1.setTop (mkF m 7 #[.val (.ref cu), .val (.int p1), .val (.int (ata + p1))] [])) (fun t k => ?_) ?_
  · show Steps p.tables e below (T1.setTop (mkF m 4 #[.val (.ref cu), .val (.int p1), .unset] [(.int ata)])) _
    refine XS.iloadN X1.here hx rfl (hb hby d_prog_92_method_3_4) rfl ?_
    show Steps p.tables e below (T1.setTop (mkF m 5 #[.val (.ref cu), .val (.int p1), .unset] [(.int p1), (.int ata)])) _
    refine XS.iadd X1.here hx rfl (hb hby d_prog_92_method_3_5) rfl ?_
    show Steps p.tables e below (T1.setTop (mkF m 6 #[.val (.ref cu), .val (.int p1), .unset] [(.int (ata + p1))])) _
    refine XS.istoreN X1.here hx rfl (hb hby d_prog_92_method_3_6) rfl (l' := #[.val (.ref cu), .val (.int p1), .val (.int (ata + p1))]) rfl ?_
    show Steps p.tables e below (T1.setTop (mkF m 7 #[.val (.ref cu), .val (.int p1), .val (.int (ata + p1))] [])) _
    exact k
  obtain ⟨ix, hix⟩ : ∃ z : Int32, z = (ata + p1) := ⟨_, rfl⟩
  rw [← hix]
  refine own_go (B := T1.setTop (mkF m 8 #[.val (.ref cu), .val (.int p1), .val (.int ix)] [(.int ix)])) (fun t k => ?_) ?_
  · show Steps p.tables e below (T1.setTop (mkF m 7 #[.val (.ref cu), .val (.int p1), .val (.int ix)] [])) _
    refine XS.iloadN X1.here hx rfl (hb hby d_prog_92_method_3_7) rfl ?_
    show Steps p.tables e below (T1.setTop (mkF m 8 #[.val (.ref cu), .val (.int p1), .val (.int ix)] [(.int ix)])) _
    exact k
  by_cases s8 : ix < (0 : Int32)
  · refine own_go (B := T1.setTop (mkF m 41 #[.val (.ref cu), .val (.int p1), .val (.int ix)] [(.ref cu)])) (fun t k => ?_) ?_
    · show Steps p.tables e below (T1.setTop (mkF m 8 #[.val (.ref cu), .val (.int p1), .val (.int ix)] [(.int ix)])) _
      refine XS.ifYes X1.here hx rfl (pc0 := 8) (pc' := 40) rfl (hb hby d_prog_92_method_3_8) rfl ((if0 _ _).trans (tlt s8).1) (by decide) (by decide) ?_
      show Steps p.tables e below (T1.setTop (mkF m 40 #[.val (.ref cu), .val (.int p1), .val (.int ix)] [])) _
      refine XS.aloadN X1.here hx rfl (hb hby d_prog_92_method_3_40) rfl rfl ?_
      show Steps p.tables e below (T1.setTop (mkF m 41 #[.val (.ref cu), .val (.int p1), .val (.int ix)] [(.ref cu)])) _
      exact k
    obtain ⟨T2, X2, e2, st2⟩ := getF X1 hx hZ hown (host := "") (Or.inl (hw _ (own_g (i := 102) rfl))) Via.refl e1 G1 (g := (mkF m 41 #[.val (.ref cu), .val (.int p1), .val (.int ix)] [(.ref cu)])) rfl rfl (hb hby d_prog_92_method_3_41)
    refine own_go (B := T2.setTop (mkF m 44 #[.val (.ref cu), .val (.int p1), .val (.int ix)] [(.ref en)])) st2 ?_
    obtain ⟨fs, hr, hrun, hended, hW, hsame⟩ := X2.leave (v := some (.ref en)) (fun h => by rw [Bd.returns] at h; cases h)
    refine ⟨_, _, own_retA X2 hx rfl Bd.returns rfl (hb hby d_prog_92_method_3_44) hr, hfin _ _ ⟨hrun, hended, _, _, rfl, ?_, ⟨_, rfl⟩, hW, hsame.mono (by decide) (by decide)⟩⟩
    show QPk1 Z cu li en da kda t0 ata p1 h0 n0 _ T2.heap _
    exact ⟨en, rfl, N, e2, (fun qq_ => absurd (hix ▸ s8) qq_.1), (fun _ => rfl)⟩
  · refine own_go (B := T1.setTop (mkF m 13 #[.val (.ref cu), .val (.int p1), .val (.int ix)] [(.ref cu), (.int ix)])) (fun t k => ?_) ?_
    · show Steps p.tables e below (T1.setTop (mkF m 8 #[.val (.ref cu), .val (.int p1), .val (.int ix)] [(.int ix)])) _
      refine XS.ifNo X1.here hx rfl (hb hby d_prog_92_method_3_8) rfl ((if0 _ _).trans (flt s8).1) ?_
      show Steps p.tables e below (T1.setTop (mkF m 11 #[.val (.ref cu), .val (.int p1), .val (.int ix)] [])) _
      refine XS.iloadN X1.here hx rfl (hb hby d_prog_92_method_3_11) rfl ?_
      show Steps p.tables e below (T1.setTop (mkF m 12 #[.val (.ref cu), .val (.int p1), .val (.int ix)] [(.int ix)])) _
      refine XS.aloadN X1.here hx rfl (hb hby d_prog_92_method_3_12) rfl rfl ?_
      show Steps p.tables e below (T1.setTop (mkF m 13 #[.val (.ref cu), .val (.int p1), .val (.int ix)] [(.ref cu), (.int ix)])) _
      exact k
    obtain ⟨T4, X4, e4, st4⟩ := getF X1 hx hZ hown (host := "") (Or.inl (hw _ (own_g (i := 93) rfl))) Via.refl e1 G0 (g := (mkF m 13 #[.val (.ref cu), .val (.int p1), .val (.int ix)] [(.ref cu), (.int ix)])) rfl rfl (hb hby d_prog_92_method_3_13)
    refine own_go (B := T4.setTop (mkF m 16 #[.val (.ref cu), .val (.int p1), .val (.int ix)] [(.ref li), (.int ix)])) st4 ?_
    -- pc 16: java/util/ArrayList.size
    obtain ⟨cq5, kq5, q5a, q5b, q5c⟩ := isOf hZ e4 El
    obtain ⟨_, _, ⟨T5, L5, k5, n5⟩, -, X5, ⟨Lc5, hQ5, l5, y5, z5⟩, st5⟩ := X4.interfaceBack hx (xi := (⟨"java/util/List", "size", "()I"⟩ : MethodName)) (y := (⟨"java/util/ArrayList", "size", "()I"⟩ : MethodName)) hown (mvT hZ (hw _ (own_g (i := 116) rfl))) (mvT hZ (hw _ (own_g (i := 117) rfl))) (mvT hZ (hw _ (own_g (i := 118) rfl))) (mvT hZ (hw _ (own_g (i := 119) rfl))) (mvT hZ (hw _ (own_g (i := 120) rfl))) (mvT hZ (hw _ (own_g (i := 121) rfl))) (mvT hZ (hw _ (own_g (i := 122) rfl))) (mvT hZ (hw _ (own_g (i := 123) rfl))) (by decide) (backOf (W := 1) (rmSz1 l Z a0 hw [] li h0 n0 O F3) hZ (hw _ (own_g (i := 124) rfl)) (hw _ (own_g (i := 60) rfl)) (by decide) (by decide)) q5a q5b q5c (g := (mkF m 16 #[.val (.ref cu), .val (.int p1), .val (.int ix)] [(.ref li), (.int ix)])) rfl (by rw [hml]; rfl) (Steps.refl _) (argsL := []) (rest := [(.int ix)]) (lenOf pd_14 rfl) rfl (by show 2 * 0 + _ ≤ _; exact Nat.le_of_eq rfl) (hb hby d_prog_92_method_3_16) (fun _ hWm => ⟨rfl, e4, (by decide : 0 + 0 ≤ _), (by decide : 0 + 0 ≤ _)⟩)
    dsimp only [Pt.U, Pt.locs, Pt.cells, Pt.slots] at X5 l5 y5 z5 st5 hQ5
    subst l5 y5 z5
    obtain ⟨rfl, Nq5, Kq5⟩ := hQ5
    replace N := Fr.app N Nq5
    refine own_go (B := T5.setTop (mkF m 21 #[.val (.ref cu), .val (.int p1), .val (.int ix)] [(.int (1 : Int32)), (.int ix)])) (fun t k => st5.trans k) ?_
    by_cases s21 : ix < (1 : Int32)
    · refine own_go (B := T5.setTop (mkF m 24 #[.val (.ref cu), .val (.int p1), .val (.int ix)] [])) (fun t k => ?_) ?_
      · show Steps p.tables e below (T5.setTop (mkF m 21 #[.val (.ref cu), .val (.int p1), .val (.int ix)] [(.int (1 : Int32)), (.int ix)])) _
        refine XS.icmpNo X5.here hx rfl (hb hby d_prog_92_method_3_21) rfl (tlt s21).2.1 ?_
        show Steps p.tables e below (T5.setTop (mkF m 24 #[.val (.ref cu), .val (.int p1), .val (.int ix)] [])) _
        exact k
      have z0 : ix = (0 : Int32) := own_is0 s8 s21
      have hin := (⟨s8, s21⟩ : own_in ix (1 : Int32))
      rw [hix] at hin
      subst z0
      refine own_go (B := T5.setTop (mkF m 25 #[.val (.ref cu), .val (.int p1), .val (.int (0 : Int32))] [(.ref cu)])) (fun t k => ?_) ?_
      · show Steps p.tables e below (T5.setTop (mkF m 24 #[.val (.ref cu), .val (.int p1), .val (.int (0 : Int32))] [])) _
        refine XS.aloadN X5.here hx rfl (hb hby d_prog_92_method_3_24) rfl rfl ?_
        show Steps p.tables e below (T5.setTop (mkF m 25 #[.val (.ref cu), .val (.int p1), .val (.int (0 : Int32))] [(.ref cu)])) _
        exact k
      obtain ⟨T6, X6, e6, st6⟩ := getF X5 hx hZ hown (host := "") (Or.inl (hw _ (own_g (i := 93) rfl))) Via.refl Kq5 G0 (g := (mkF m 25 #[.val (.ref cu), .val (.int p1), .val (.int (0 : Int32))] [(.ref cu)])) rfl rfl (hb hby d_prog_92_method_3_25)
      refine own_go (B := T6.setTop (mkF m 28 #[.val (.ref cu), .val (.int p1), .val (.int (0 : Int32))] [(.ref li)])) st6 ?_
      refine own_go (B := T6.setTop (mkF m 29 #[.val (.ref cu), .val (.int p1), .val (.int (0 : Int32))] [(.int (0 : Int32)), (.ref li)])) (fun t k => ?_) ?_
      · show Steps p.tables e below (T6.setTop (mkF m 28 #[.val (.ref cu), .val (.int p1), .val (.int (0 : Int32))] [(.ref li)])) _
        refine XS.iloadN X6.here hx rfl (hb hby d_prog_92_method_3_28) rfl ?_
        show Steps p.tables e below (T6.setTop (mkF m 29 #[.val (.ref cu), .val (.int p1), .val (.int (0 : Int32))] [(.int (0 : Int32)), (.ref li)])) _
        exact k
      -- pc 29: java/util/ArrayList.get
      obtain ⟨cq7, kq7, q7a, q7b, q7c⟩ := isOf hZ e6 El
      obtain ⟨_, _, ⟨T7, L7, k7, n7⟩, -, X7, ⟨Lc7, hQ7, l7, y7, z7⟩, st7⟩ := X6.interfaceBack hx (xi := (⟨"java/util/List", "get", "(I)Ljava/lang/Object;"⟩ : MethodName)) (y := (⟨"java/util/ArrayList", "get", "(I)Ljava/lang/Object;"⟩ : MethodName)) hown (mvT hZ (hw _ (own_g (i := 182) rfl))) (mvT hZ (hw _ (own_g (i := 183) rfl))) (mvT hZ (hw _ (own_g (i := 184) rfl))) (mvT hZ (hw _ (own_g (i := 185) rfl))) (mvT hZ (hw _ (own_g (i := 186) rfl))) (mvT hZ (hw _ (own_g (i := 187) rfl))) (mvT hZ (hw _ (own_g (i := 188) rfl))) (mvT hZ (hw _ (own_g (i := 123) rfl))) (by decide) (backOf (W := 0) (rmGt10 l Z a0 hw [] li da kda t0 h0 n0 O El F3 F2 V1) hZ (hw _ (own_g (i := 189) rfl)) (hw _ (own_g (i := 60) rfl)) (by decide) (by decide)) q7a q7b q7c (g := (mkF m 29 #[.val (.ref cu), .val (.int p1), .val (.int (0 : Int32))] [(.int (0 : Int32)), (.ref li)])) rfl (by rw [hml]; rfl) (Steps.refl _) (argsL := [(.int (0 : Int32))]) (rest := []) (lenOf pd_12 rfl) rfl (by show 2 * 0 + _ ≤ _; exact Nat.le_of_eq rfl) (hb hby d_prog_92_method_3_29) (fun _ hWm => ⟨rfl, e6, (by decide : 0 + 0 ≤ _), (by decide : 0 + 0 ≤ _)⟩)
      dsimp only [Pt.U, Pt.locs, Pt.cells, Pt.slots] at X7 l7 y7 z7 st7 hQ7
      subst l7 y7 z7
      obtain ⟨rfl, Nq7, Kq7⟩ := hQ7
      replace N := Fr.app N Nq7
      refine own_go (B := T7.setTop (mkF m 34 #[.val (.ref cu), .val (.int p1), .val (.int (0 : Int32))] [(.ref t0)])) (fun t k => st7.trans k) ?_
      obtain ⟨T8, X8, e8, st8⟩ := castY X7 hx hZ hown (hw _ (own_g (i := 95) rfl)) Kq7 (Ins.self E_t0) (g := (mkF m 34 #[.val (.ref cu), .val (.int p1), .val (.int (0 : Int32))] [(.ref t0)])) rfl rfl (hb hby d_prog_92_method_3_34)
      refine own_go (B := T8.setTop (mkF m 37 #[.val (.ref cu), .val (.int p1), .val (.int (0 : Int32))] [(.ref t0)])) st8 ?_
      refine own_go (B := T8.setTop (mkF m 44 #[.val (.ref cu), .val (.int p1), .val (.int (0 : Int32))] [(.ref t0)])) (fun t k => ?_) ?_
      · show Steps p.tables e below (T8.setTop (mkF m 37 #[.val (.ref cu), .val (.int p1), .val (.int (0 : Int32))] [(.ref t0)])) _
        refine XS.goto X8.here hx rfl (pc0 := 37) (pc' := 44) rfl (hb hby d_prog_92_method_3_37) (by decide) (by decide) ?_
        show Steps p.tables e below (T8.setTop (mkF m 44 #[.val (.ref cu), .val (.int p1), .val (.int (0 : Int32))] [(.ref t0)])) _
        exact k
      obtain ⟨fs, hr, hrun, hended, hW, hsame⟩ := X8.leave (v := some (.ref t0)) (fun h => by rw [Bd.returns] at h; cases h)
      refine ⟨_, _, own_retA X8 hx rfl Bd.returns rfl (hb hby d_prog_92_method_3_44) hr, hfin _ _ ⟨hrun, hended, _, _, rfl, ?_, ⟨_, rfl⟩, hW, hsame.mono (by decide) (by decide)⟩⟩
      show QPk1 Z cu li en da kda t0 ata p1 h0 n0 _ T8.heap _
      exact ⟨t0, rfl, N, e8, (fun _ => ne_t0), (fun qq_ => absurd hin qq_)⟩
    · refine own_go (B := T5.setTop (mkF m 41 #[.val (.ref cu), .val (.int p1), .val (.int ix)] [(.ref cu)])) (fun t k => ?_) ?_
      · show Steps p.tables e below (T5.setTop (mkF m 21 #[.val (.ref cu), .val (.int p1), .val (.int ix)] [(.int (1 : Int32)), (.int ix)])) _
        refine XS.icmpYes X5.here hx rfl (pc0 := 21) (pc' := 40) rfl (hb hby d_prog_92_method_3_21) rfl (flt s21).2.1 (by decide) (by decide) ?_
        show Steps p.tables e below (T5.setTop (mkF m 40 #[.val (.ref cu), .val (.int p1), .val (.int ix)] [])) _
        refine XS.aloadN X5.here hx rfl (hb hby d_prog_92_method_3_40) rfl rfl ?_
        show Steps p.tables e below (T5.setTop (mkF m 41 #[.val (.ref cu), .val (.int p1), .val (.int ix)] [(.ref cu)])) _
        exact k
      obtain ⟨T10, X10, e10, st10⟩ := getF X5 hx hZ hown (host := "") (Or.inl (hw _ (own_g (i := 102) rfl))) Via.refl Kq5 G1 (g := (mkF m 41 #[.val (.ref cu), .val (.int p1), .val (.int ix)] [(.ref cu)])) rfl rfl (hb hby d_prog_92_method_3_41)
      refine own_go (B := T10.setTop (mkF m 44 #[.val (.ref cu), .val (.int p1), .val (.int ix)] [(.ref en)])) st10 ?_
      obtain ⟨fs, hr, hrun, hended, hW, hsame⟩ := X10.leave (v := some (.ref en)) (fun h => by rw [Bd.returns] at h; cases h)
      refine ⟨_, _, own_retA X10 hx rfl Bd.returns rfl (hb hby d_prog_92_method_3_44) hr, hfin _ _ ⟨hrun, hended, _, _, rfl, ?_, ⟨_, rfl⟩, hW, hsame.mono (by decide) (by decide)⟩⟩
      show QPk1 Z cu li en da kda t0 ata p1 h0 n0 _ T10.heap _
      exact ⟨en, rfl, N, e10, (fun qq_ => absurd qq_.2 (hix ▸ s21)), (fun _ => rfl)⟩
def QPz1 (Z : State) (cu : Addr) (li : Addr) (en : Addr) (da : Addr) (kda : ClassId) (t0 : Addr) (ata : Int32) (h0 : Heap) (n0 : Nat) (v : Option Value) (h : Heap) (L : List Loc) : Prop := ∃ r : Addr, v = some (.ref r) ∧ Fr n0 L ∧ h = h0 ∧ (own_in (ata + (0 : Int32)) (1 : Int32) → ¬ r = en) ∧ (¬ own_in (ata + (0 : Int32)) (1 : Int32) → r = en)
theorem ef_Pz1 (m : MethodId) (cu : Addr) : entryFrame m #[(.ref cu)] 1 = mkF m 0 #[.val (.ref cu)] [] := by first | (simp [entryFrame, mkF, argsToLocals, Value.category]; done) | rfl | (rfl)
set_option maxRecDepth 65536 in
set_option maxHeartbeats 40000000 in
theorem rmPz1 (l : Launch) (Z : State) (a0 : Array Value) (hw : ∀ d ∈ tables_1, d.before a0 Z = true) (ws : List Jvm.Cond) (cu : Addr) (li : Addr) (en : Addr) (da : Addr) (kda : ClassId) (t0 : Addr) (ata : Int32) (h0 : Heap) (n0 : Nat) (O : Old Z n0 h0) (E : Exa Z h0 cu "com/example/nasute/nasute/sql/TokenCursorIsTextEndPinLaw") (G0 : Fld Z h0 cu "com/example/nasute/nasute/sql/TokenCursor" "tokens" "Ljava/util/List;" (.ref li)) (G1 : Fld Z h0 cu "com/example/nasute/nasute/sql/TokenCursor" "end" "Lcom/example/nasute/nasute/sql/Token;" (.ref en)) (G2 : Fld Z h0 cu "com/example/nasute/nasute/sql/TokenCursor" "at" "I" (.int ata)) (El : Exa Z h0 li "java/util/ArrayList") (F3 : Fld Z h0 li "java/util/ArrayList" "size" "I" (.int (1 : Int32))) (F2 : Fld Z h0 li "java/util/ArrayList" "elementData" "[Ljava/lang/Object;" (.ref da)) (V1 : Arv Z h0 da kda (.object "java/lang/Object") (10 : Int32) [(.ref t0), .null, .null, .null, .null, .null, .null, .null, .null, .null] .null) (E_t0 : Exa Z h0 t0 "com/example/nasute/nasute/sql/Token") (ne_t0 : t0 ≠ en) :
    MetFree l (⟨"com/example/nasute/nasute/sql/TokenCursor", "peek", "()Lcom/example/nasute/nasute/sql/Token;"⟩ : MethodName) (head1 (Jvm.Cond.code (⟨"com/example/nasute/nasute/sql/TokenCursor", "peek", "()Lcom/example/nasute/nasute/sql/Token;"⟩ : MethodName) prog_92_method_2_code 1 (some (.object "com/example/nasute/nasute/sql/Token")) :: ws) ({ frames := 4, cells := 0, slots := 0, locals := 54 } : Room)) (fun as_ U => as_ = #[(.ref cu)] ∧ Z.Warmed39 U.vm ∧ U.heap = h0) (fun _ _ _ _ _ => True) (fun _ U oo_ U' => ∃ vv_ LL_, oo_ = .returned vv_ ∧ QPz1 Z cu li en da kda t0 ata h0 n0 vv_ U'.heap LL_ ∧ FrameEnd U oo_ U' LL_ ({ frames := 4, cells := 0, slots := 0, locals := 54 } : Room).cells ({ frames := 4, cells := 0, slots := 0, locals := 54 } : Room).slots) := by
  refine MetFree.of_bodySF (plainFor_of_name pn_10) hisR ?_
  intro p e s m args below meth c s₁ Bd hml0 hP hK
  obtain ⟨rfl, hZ, hh⟩ := hP
  have hx := Bd.exec
  have hby := Bd.bytes
  have hml : c.maxLocals = 1 := hml0
  have hown : s.vm.findClass "com/example/nasute/nasute/sql/TokenCursor" = some m.cls := findClass_of_methodNamed Bd.named
  have hnm := (name_of_methodNamed Bd.named Bd.method).1
  have X0 : Stand p l e ({ frames := 4, cells := 0, slots := 0, locals := 54 } : Room) s m #[(.ref cu)] below meth c s₁ [] 0 0 := Stand.of_body Bd
  have e0 : s₁.heap = h0 := by rw [← hh, Bd.state]; rfl
  have N := Fr.nil n0
  have K : Keep h0 h0 [] := Keep.refl h0 _
  refine own_go (B := s₁.setTop (mkF m 0 #[.val (.ref cu)] [])) (fun t k => castTop (ef_Pz1 m cu) k) ?_
  refine own_abs (fun P hfin => ?_)
  refine own_go (B := s₁.setTop (mkF m 2 #[.val (.ref cu)] [(.int (0 : Int32)), (.ref cu)])) (fun t k => ?_) ?_
  · show Steps p.tables e below (s₁.setTop (mkF m 0 #[.val (.ref cu)] [])) _
    refine XS.aloadN X0.here hx rfl (hb hby d_prog_92_method_2_0) rfl rfl ?_
    show Steps p.tables e below (s₁.setTop (mkF m 1 #[.val (.ref cu)] [(.ref cu)])) _
    refine XS.iconst X0.here hx rfl (hb hby d_prog_92_method_2_1) ?_
    show Steps p.tables e below (s₁.setTop (mkF m 2 #[.val (.ref cu)] [(.int (0 : Int32)), (.ref cu)])) _
    exact k
  -- pc 2: com/example/nasute/nasute/sql/TokenCursor.peek
  obtain ⟨cq1, kq1, q1a, q1b, q1c⟩ := isOf hZ e0 E
  obtain ⟨_, _, ⟨T1, L1, k1, n1⟩, -, X1, ⟨Lc1, hQ1, l1, y1, z1⟩, st1⟩ := X0.virtualBack hx (y := (⟨"com/example/nasute/nasute/sql/TokenCursor", "peek", "(I)Lcom/example/nasute/nasute/sql/Token;"⟩ : MethodName)) (z := (⟨"com/example/nasute/nasute/sql/TokenCursor", "peek", "(I)Lcom/example/nasute/nasute/sql/Token;"⟩ : MethodName)) hown (mvT hZ (hw _ (own_g (i := 180) rfl))) (mvT hZ (hw _ (own_g (i := 110) rfl))) (notFace_of_selects (args := #[]) (mvT hZ (hw _ (own_g (i := 181) rfl)))) (mvT hZ (hw _ (own_g (i := 181) rfl))) (mvT hZ (hw _ (own_g (i := 111) rfl))) (by decide) (backOf (W := 0) (rmPk1 l Z a0 hw [] cu li en da kda t0 ata (0 : Int32) h0 n0 O E G0 G1 G2 El F3 F2 V1 E_t0 ne_t0) hZ (hw _ (own_g (i := 113) rfl)) (hw _ (own_g (i := 90) rfl)) (by decide) (by decide)) q1a q1c (g := (mkF m 2 #[.val (.ref cu)] [(.int (0 : Int32)), (.ref cu)])) rfl (by rw [hml]; rfl) (Steps.refl _) (argsL := [(.int (0 : Int32))]) (rest := []) (lenOf pd_15 rfl) rfl (by show 2 * 0 + _ ≤ _; exact Nat.le_of_eq rfl) (hb hby d_prog_92_method_2_2) (fun _ hWm => ⟨rfl, e0, (by decide : 0 + 0 ≤ _), (by decide : 0 + 0 ≤ _)⟩)
  dsimp only [Pt.U, Pt.locs, Pt.cells, Pt.slots] at X1 l1 y1 z1 st1 hQ1
  subst l1 y1 z1
  obtain ⟨r1, rfl, Nq1, Kq1, cq1_0, cq1_1⟩ := hQ1
  replace N := Fr.app N Nq1
  refine own_go (B := T1.setTop (mkF m 5 #[.val (.ref cu)] [(.ref r1)])) (fun t k => st1.trans k) ?_
  obtain ⟨fs, hr, hrun, hended, hW, hsame⟩ := X1.leave (v := some (.ref r1)) (fun h => by rw [Bd.returns] at h; cases h)
  refine ⟨_, _, own_retA X1 hx rfl Bd.returns rfl (hb hby d_prog_92_method_2_5) hr, hfin _ _ ⟨hrun, hended, _, _, rfl, ?_, ⟨_, rfl⟩, hW, hsame.mono (by decide) (by decide)⟩⟩
  show QPz1 Z cu li en da kda t0 ata h0 n0 _ T1.heap _
  exact ⟨r1, rfl, N, Kq1, cq1_0, cq1_1⟩
def QNx10 (Z : State) (cu : Addr) (li : Addr) (en : Addr) (da : Addr) (kda : ClassId) (t0 : Addr) (h0 : Heap) (n0 : Nat) (v : Option Value) (h : Heap) (L : List Loc) : Prop := ∃ r : Addr, v = some (.ref r) ∧ Fr n0 L ∧ Keep h0 h [cu] ∧ Fld Z h cu "com/example/nasute/nasute/sql/TokenCursor" "tokens" "Ljava/util/List;" (.ref li) ∧ Fld Z h cu "com/example/nasute/nasute/sql/TokenCursor" "end" "Lcom/example/nasute/nasute/sql/Token;" (.ref en) ∧ Fld Z h cu "com/example/nasute/nasute/sql/TokenCursor" "at" "I" (.int (1 : Int32))
theorem ef_Nx10 (m : MethodId) (cu : Addr) : entryFrame m #[(.ref cu)] 2 = mkF m 0 #[.val (.ref cu), .unset] [] := by first | (simp [entryFrame, mkF, argsToLocals, Value.category]; done) | rfl | (rfl)
set_option maxRecDepth 65536 in
set_option maxHeartbeats 40000000 in
theorem rmNx10 (l : Launch) (Z : State) (a0 : Array Value) (hw : ∀ d ∈ tables_1, d.before a0 Z = true) (ws : List Jvm.Cond) (cu : Addr) (li : Addr) (en : Addr) (da : Addr) (kda : ClassId) (t0 : Addr) (h0 : Heap) (n0 : Nat) (O : Old Z n0 h0) (E : Exa Z h0 cu "com/example/nasute/nasute/sql/TokenCursorIsTextEndPinLaw") (G0 : Fld Z h0 cu "com/example/nasute/nasute/sql/TokenCursor" "tokens" "Ljava/util/List;" (.ref li)) (G1 : Fld Z h0 cu "com/example/nasute/nasute/sql/TokenCursor" "end" "Lcom/example/nasute/nasute/sql/Token;" (.ref en)) (G2 : Fld Z h0 cu "com/example/nasute/nasute/sql/TokenCursor" "at" "I" (.int (0 : Int32))) (El : Exa Z h0 li "java/util/ArrayList") (F3 : Fld Z h0 li "java/util/ArrayList" "size" "I" (.int (1 : Int32))) (F2 : Fld Z h0 li "java/util/ArrayList" "elementData" "[Ljava/lang/Object;" (.ref da)) (V1 : Arv Z h0 da kda (.object "java/lang/Object") (10 : Int32) [(.ref t0), .null, .null, .null, .null, .null, .null, .null, .null, .null] .null) (E_t0 : Exa Z h0 t0 "com/example/nasute/nasute/sql/Token") (ne_t0 : t0 ≠ en) (ga : n0 ≤ cu) (nlc : li ≠ cu) (ndc : da ≠ cu) :
    MetFree l (⟨"com/example/nasute/nasute/sql/TokenCursor", "next", "()Lcom/example/nasute/nasute/sql/Token;"⟩ : MethodName) (head1 (Jvm.Cond.code (⟨"com/example/nasute/nasute/sql/TokenCursor", "next", "()Lcom/example/nasute/nasute/sql/Token;"⟩ : MethodName) prog_92_method_4_code 2 (some (.object "com/example/nasute/nasute/sql/Token")) :: ws) ({ frames := 5, cells := 0, slots := 0, locals := 66 } : Room)) (fun as_ U => as_ = #[(.ref cu)] ∧ Z.Warmed39 U.vm ∧ U.heap = h0) (fun _ _ _ _ _ => True) (fun _ U oo_ U' => ∃ vv_ LL_, oo_ = .returned vv_ ∧ QNx10 Z cu li en da kda t0 h0 n0 vv_ U'.heap LL_ ∧ FrameEnd U oo_ U' LL_ ({ frames := 5, cells := 0, slots := 0, locals := 66 } : Room).cells ({ frames := 5, cells := 0, slots := 0, locals := 66 } : Room).slots) := by
  refine MetFree.of_bodySF (plainFor_of_name pn_10) hisR ?_
  intro p e s m args below meth c s₁ Bd hml0 hP hK
  obtain ⟨rfl, hZ, hh⟩ := hP
  have hx := Bd.exec
  have hby := Bd.bytes
  have hml : c.maxLocals = 2 := hml0
  have hown : s.vm.findClass "com/example/nasute/nasute/sql/TokenCursor" = some m.cls := findClass_of_methodNamed Bd.named
  have hnm := (name_of_methodNamed Bd.named Bd.method).1
  have X0 : Stand p l e ({ frames := 5, cells := 0, slots := 0, locals := 66 } : Room) s m #[(.ref cu)] below meth c s₁ [] 0 0 := Stand.of_body Bd
  have e0 : s₁.heap = h0 := by rw [← hh, Bd.state]; rfl
  have N := Fr.nil n0
  have K : Keep h0 h0 [cu] := Keep.refl h0 _
  refine own_go (B := s₁.setTop (mkF m 0 #[.val (.ref cu), .unset] [])) (fun t k => castTop (ef_Nx10 m cu) k) ?_
  refine own_abs (fun P hfin => ?_)
  refine own_go (B := s₁.setTop (mkF m 1 #[.val (.ref cu), .unset] [(.ref cu)])) (fun t k => ?_) ?_
  · show Steps p.tables e below (s₁.setTop (mkF m 0 #[.val (.ref cu), .unset] [])) _
    refine XS.aloadN X0.here hx rfl (hb hby d_prog_92_method_4_0) rfl rfl ?_
    show Steps p.tables e below (s₁.setTop (mkF m 1 #[.val (.ref cu), .unset] [(.ref cu)])) _
    exact k
  -- pc 1: com/example/nasute/nasute/sql/TokenCursor.peek
  obtain ⟨cq1, kq1, q1a, q1b, q1c⟩ := isOf hZ e0 E
  obtain ⟨_, _, ⟨T1, L1, k1, n1⟩, -, X1, ⟨Lc1, hQ1, l1, y1, z1⟩, st1⟩ := X0.virtualBack hx (y := (⟨"com/example/nasute/nasute/sql/TokenCursor", "peek", "()Lcom/example/nasute/nasute/sql/Token;"⟩ : MethodName)) (z := (⟨"com/example/nasute/nasute/sql/TokenCursor", "peek", "()Lcom/example/nasute/nasute/sql/Token;"⟩ : MethodName)) hown (mvT hZ (hw _ (own_g (i := 175) rfl))) (mvT hZ (hw _ (own_g (i := 176) rfl))) (notFace_of_selects (args := #[]) (mvT hZ (hw _ (own_g (i := 178) rfl)))) (mvT hZ (hw _ (own_g (i := 178) rfl))) (mvT hZ (hw _ (own_g (i := 177) rfl))) (by decide) (backOf (W := 0) (rmPz1 l Z a0 hw [] cu li en da kda t0 (0 : Int32) h0 n0 O E G0 G1 G2 El F3 F2 V1 E_t0 ne_t0) hZ (hw _ (own_g (i := 179) rfl)) (hw _ (own_g (i := 90) rfl)) (by decide) (by decide)) q1a q1c (g := (mkF m 1 #[.val (.ref cu), .unset] [(.ref cu)])) rfl (by rw [hml]; rfl) (Steps.refl _) (argsL := []) (rest := []) (lenOf pd_16 rfl) rfl (by show 2 * 0 + _ ≤ _; exact Nat.le_of_eq rfl) (hb hby d_prog_92_method_4_1) (fun _ hWm => ⟨rfl, e0, (by decide : 0 + 0 ≤ _), (by decide : 0 + 0 ≤ _)⟩)
  dsimp only [Pt.U, Pt.locs, Pt.cells, Pt.slots] at X1 l1 y1 z1 st1 hQ1
  subst l1 y1 z1
  obtain ⟨r1, rfl, Nq1, Kq1, cq1_0, cq1_1⟩ := hQ1
  replace N := Fr.app N Nq1
  refine own_go (B := T1.setTop (mkF m 4 #[.val (.ref cu), .unset] [(.ref r1)])) (fun t k => st1.trans k) ?_
  refine own_go (B := T1.setTop (mkF m 7 #[.val (.ref cu), .val (.ref r1)] [(.ref cu), (.ref r1)])) (fun t k => ?_) ?_
  · show Steps p.tables e below (T1.setTop (mkF m 4 #[.val (.ref cu), .unset] [(.ref r1)])) _
    refine XS.astoreN X1.here hx rfl (hb hby d_prog_92_method_4_4) rfl rfl (l' := #[.val (.ref cu), .val (.ref r1)]) rfl ?_
    show Steps p.tables e below (T1.setTop (mkF m 5 #[.val (.ref cu), .val (.ref r1)] [])) _
    refine XS.aloadN X1.here hx rfl (hb hby d_prog_92_method_4_5) rfl rfl ?_
    show Steps p.tables e below (T1.setTop (mkF m 6 #[.val (.ref cu), .val (.ref r1)] [(.ref r1)])) _
    refine XS.aloadN X1.here hx rfl (hb hby d_prog_92_method_4_6) rfl rfl ?_
    show Steps p.tables e below (T1.setTop (mkF m 7 #[.val (.ref cu), .val (.ref r1)] [(.ref cu), (.ref r1)])) _
    exact k
  obtain ⟨T2, X2, e2, st2⟩ := getF X1 hx hZ hown (host := "") (Or.inl (hw _ (own_g (i := 102) rfl))) Via.refl Kq1 G1 (g := (mkF m 7 #[.val (.ref cu), .val (.ref r1)] [(.ref cu), (.ref r1)])) rfl rfl (hb hby d_prog_92_method_4_7)
  refine own_go (B := T2.setTop (mkF m 10 #[.val (.ref cu), .val (.ref r1)] [(.ref en), (.ref r1)])) st2 ?_
  refine own_go (B := T2.setTop (mkF m 15 #[.val (.ref cu), .val (.ref r1)] [(.ref cu), (.ref cu)])) (fun t k => ?_) ?_
  · show Steps p.tables e below (T2.setTop (mkF m 10 #[.val (.ref cu), .val (.ref r1)] [(.ref en), (.ref r1)])) _
    refine Jvm.RoadKit.acmp (g := (mkF m 10 #[.val (.ref cu), .val (.ref r1)] [(.ref en), (.ref r1)])) X2 hx rfl rfl rfl (pc0 := 10) (pc' := 13) (same := false) rfl (hb hby d_prog_92_method_4_10) rfl (decide_eq_false fun q => (cq1_0 (by decide)) (Value.ref.inj q)) (by decide) (by decide) ?_
    show Steps p.tables e below (T2.setTop (mkF m 13 #[.val (.ref cu), .val (.ref r1)] [])) _
    refine XS.aloadN X2.here hx rfl (hb hby d_prog_92_method_4_13) rfl rfl ?_
    show Steps p.tables e below (T2.setTop (mkF m 14 #[.val (.ref cu), .val (.ref r1)] [(.ref cu)])) _
    refine XS.dup X2.here hx rfl (hb hby d_prog_92_method_4_14) rfl rfl ?_
    show Steps p.tables e below (T2.setTop (mkF m 15 #[.val (.ref cu), .val (.ref r1)] [(.ref cu), (.ref cu)])) _
    exact k
  obtain ⟨T3, X3, e3, st3⟩ := getF X2 hx hZ hown (host := "") (Or.inl (hw _ (own_g (i := 114) rfl))) Via.refl e2 G2 (g := (mkF m 15 #[.val (.ref cu), .val (.ref r1)] [(.ref cu), (.ref cu)])) rfl rfl (hb hby d_prog_92_method_4_15)
  refine own_go (B := T3.setTop (mkF m 18 #[.val (.ref cu), .val (.ref r1)] [(.int (0 : Int32)), (.ref cu)])) st3 ?_
  refine own_go (B := T3.setTop (mkF m 20 #[.val (.ref cu), .val (.ref r1)] [(.int ((0 : Int32) + (1 : Int32))), (.ref cu)])) (fun t k => ?_) ?_
  · show Steps p.tables e below (T3.setTop (mkF m 18 #[.val (.ref cu), .val (.ref r1)] [(.int (0 : Int32)), (.ref cu)])) _
    refine XS.iconst X3.here hx rfl (hb hby d_prog_92_method_4_18) ?_
    show Steps p.tables e below (T3.setTop (mkF m 19 #[.val (.ref cu), .val (.ref r1)] [(.int (1 : Int32)), (.int (0 : Int32)), (.ref cu)])) _
    refine XS.iadd X3.here hx rfl (hb hby d_prog_92_method_4_19) rfl ?_
    show Steps p.tables e below (T3.setTop (mkF m 20 #[.val (.ref cu), .val (.ref r1)] [(.int ((0 : Int32) + (1 : Int32))), (.ref cu)])) _
    exact k
  rw [(show ((0 : Int32) + (1 : Int32)) = (1 : Int32) from by decide)]
  obtain ⟨T4, h4, X4, e4, W4, st4⟩ := putF X3 hx hZ hown (host := "") (Or.inl (hw _ (own_g (i := 114) rfl))) Via.refl e3 G2 E (Or.inl (hw _ (own_g (i := 115) rfl))) (hw _ (own_g (i := 83) rfl)) (ty := .int) (by decide) rfl rfl (g := (mkF m 20 #[.val (.ref cu), .val (.ref r1)] [(.int (1 : Int32)), (.ref cu)])) rfl rfl (hb hby d_prog_92_method_4_20)
  have Fw4 := G2.same W4
  replace E := E.wr W4
  replace G0 := G0.other W4 (Or.inr (slot_ne (Or.inr (hw _ (own_g (i := 94) rfl))) (Or.inl (hw _ (own_g (i := 115) rfl))) (by decide) (t := (.object "java/util/List")) (t' := .int) (by decide) (by decide)))
  replace G1 := G1.other W4 (Or.inr (slot_ne (Or.inr (hw _ (own_g (i := 103) rfl))) (Or.inl (hw _ (own_g (i := 115) rfl))) (by decide) (t := (.object "com/example/nasute/nasute/sql/Token")) (t' := .int) (by decide) (by decide)))
  clear G2
  replace El := El.wr W4
  replace F3 := F3.other W4 (Or.inl nlc)
  replace F2 := F2.other W4 (Or.inl nlc)
  replace V1 := V1.other W4 ndc
  replace E_t0 := E_t0.wr W4
  replace O := O.wr W4 ga
  replace K := K.wr W4 (Or.inl (own_g (i := 0) rfl))
  replace N := Fr.snoc X4 N ga
  refine own_go (B := T4.setTop (mkF m 23 #[.val (.ref cu), .val (.ref r1)] [])) st4 ?_
  refine own_go (B := T4.setTop (mkF m 24 #[.val (.ref cu), .val (.ref r1)] [(.ref r1)])) (fun t k => ?_) ?_
  · show Steps p.tables e below (T4.setTop (mkF m 23 #[.val (.ref cu), .val (.ref r1)] [])) _
    refine XS.aloadN X4.here hx rfl (hb hby d_prog_92_method_4_23) rfl rfl ?_
    show Steps p.tables e below (T4.setTop (mkF m 24 #[.val (.ref cu), .val (.ref r1)] [(.ref r1)])) _
    exact k
  obtain ⟨fs, hr, hrun, hended, hW, hsame⟩ := X4.leave (v := some (.ref r1)) (fun h => by rw [Bd.returns] at h; cases h)
  refine ⟨_, _, own_retA X4 hx rfl Bd.returns rfl (hb hby d_prog_92_method_4_24) hr, hfin _ _ ⟨hrun, hended, _, _, rfl, ?_, ⟨_, rfl⟩, hW, hsame.mono (by decide) (by decide)⟩⟩
  show QNx10 Z cu li en da kda t0 h0 n0 _ T4.heap _
  rw [e4]
  exact ⟨r1, rfl, N, K, G0, G1, Fw4⟩
def QNx11 (Z : State) (cu : Addr) (li : Addr) (en : Addr) (da : Addr) (kda : ClassId) (t0 : Addr) (h0 : Heap) (n0 : Nat) (v : Option Value) (h : Heap) (L : List Loc) : Prop := ∃ r : Addr, v = some (.ref r) ∧ Fr n0 L ∧ h = h0
theorem ef_Nx11 (m : MethodId) (cu : Addr) : entryFrame m #[(.ref cu)] 2 = mkF m 0 #[.val (.ref cu), .unset] [] := by first | (simp [entryFrame, mkF, argsToLocals, Value.category]; done) | rfl | (rfl)
set_option maxRecDepth 65536 in
set_option maxHeartbeats 40000000 in
theorem rmNx11 (l : Launch) (Z : State) (a0 : Array Value) (hw : ∀ d ∈ tables_1, d.before a0 Z = true) (ws : List Jvm.Cond) (cu : Addr) (li : Addr) (en : Addr) (da : Addr) (kda : ClassId) (t0 : Addr) (h0 : Heap) (n0 : Nat) (O : Old Z n0 h0) (E : Exa Z h0 cu "com/example/nasute/nasute/sql/TokenCursorIsTextEndPinLaw") (G0 : Fld Z h0 cu "com/example/nasute/nasute/sql/TokenCursor" "tokens" "Ljava/util/List;" (.ref li)) (G1 : Fld Z h0 cu "com/example/nasute/nasute/sql/TokenCursor" "end" "Lcom/example/nasute/nasute/sql/Token;" (.ref en)) (G2 : Fld Z h0 cu "com/example/nasute/nasute/sql/TokenCursor" "at" "I" (.int (1 : Int32))) (El : Exa Z h0 li "java/util/ArrayList") (F3 : Fld Z h0 li "java/util/ArrayList" "size" "I" (.int (1 : Int32))) (F2 : Fld Z h0 li "java/util/ArrayList" "elementData" "[Ljava/lang/Object;" (.ref da)) (V1 : Arv Z h0 da kda (.object "java/lang/Object") (10 : Int32) [(.ref t0), .null, .null, .null, .null, .null, .null, .null, .null, .null] .null) (E_t0 : Exa Z h0 t0 "com/example/nasute/nasute/sql/Token") (ne_t0 : t0 ≠ en) (ga : n0 ≤ cu) (nlc : li ≠ cu) (ndc : da ≠ cu) :
    MetFree l (⟨"com/example/nasute/nasute/sql/TokenCursor", "next", "()Lcom/example/nasute/nasute/sql/Token;"⟩ : MethodName) (head1 (Jvm.Cond.code (⟨"com/example/nasute/nasute/sql/TokenCursor", "next", "()Lcom/example/nasute/nasute/sql/Token;"⟩ : MethodName) prog_92_method_4_code 2 (some (.object "com/example/nasute/nasute/sql/Token")) :: ws) ({ frames := 5, cells := 0, slots := 0, locals := 66 } : Room)) (fun as_ U => as_ = #[(.ref cu)] ∧ Z.Warmed39 U.vm ∧ U.heap = h0) (fun _ _ _ _ _ => True) (fun _ U oo_ U' => ∃ vv_ LL_, oo_ = .returned vv_ ∧ QNx11 Z cu li en da kda t0 h0 n0 vv_ U'.heap LL_ ∧ FrameEnd U oo_ U' LL_ ({ frames := 5, cells := 0, slots := 0, locals := 66 } : Room).cells ({ frames := 5, cells := 0, slots := 0, locals := 66 } : Room).slots) := by
  refine MetFree.of_bodySF (plainFor_of_name pn_10) hisR ?_
  intro p e s m args below meth c s₁ Bd hml0 hP hK
  obtain ⟨rfl, hZ, hh⟩ := hP
  have hx := Bd.exec
  have hby := Bd.bytes
  have hml : c.maxLocals = 2 := hml0
  have hown : s.vm.findClass "com/example/nasute/nasute/sql/TokenCursor" = some m.cls := findClass_of_methodNamed Bd.named
  have hnm := (name_of_methodNamed Bd.named Bd.method).1
  have X0 : Stand p l e ({ frames := 5, cells := 0, slots := 0, locals := 66 } : Room) s m #[(.ref cu)] below meth c s₁ [] 0 0 := Stand.of_body Bd
  have e0 : s₁.heap = h0 := by rw [← hh, Bd.state]; rfl
  have N := Fr.nil n0
  have K : Keep h0 h0 [] := Keep.refl h0 _
  refine own_go (B := s₁.setTop (mkF m 0 #[.val (.ref cu), .unset] [])) (fun t k => castTop (ef_Nx11 m cu) k) ?_
  refine own_abs (fun P hfin => ?_)
  refine own_go (B := s₁.setTop (mkF m 1 #[.val (.ref cu), .unset] [(.ref cu)])) (fun t k => ?_) ?_
  · show Steps p.tables e below (s₁.setTop (mkF m 0 #[.val (.ref cu), .unset] [])) _
    refine XS.aloadN X0.here hx rfl (hb hby d_prog_92_method_4_0) rfl rfl ?_
    show Steps p.tables e below (s₁.setTop (mkF m 1 #[.val (.ref cu), .unset] [(.ref cu)])) _
    exact k
  -- pc 1: com/example/nasute/nasute/sql/TokenCursor.peek
  obtain ⟨cq1, kq1, q1a, q1b, q1c⟩ := isOf hZ e0 E
  obtain ⟨_, _, ⟨T1, L1, k1, n1⟩, -, X1, ⟨Lc1, hQ1, l1, y1, z1⟩, st1⟩ := X0.virtualBack hx (y := (⟨"com/example/nasute/nasute/sql/TokenCursor", "peek", "()Lcom/example/nasute/nasute/sql/Token;"⟩ : MethodName)) (z := (⟨"com/example/nasute/nasute/sql/TokenCursor", "peek", "()Lcom/example/nasute/nasute/sql/Token;"⟩ : MethodName)) hown (mvT hZ (hw _ (own_g (i := 175) rfl))) (mvT hZ (hw _ (own_g (i := 176) rfl))) (notFace_of_selects (args := #[]) (mvT hZ (hw _ (own_g (i := 178) rfl)))) (mvT hZ (hw _ (own_g (i := 178) rfl))) (mvT hZ (hw _ (own_g (i := 177) rfl))) (by decide) (backOf (W := 0) (rmPz1 l Z a0 hw [] cu li en da kda t0 (1 : Int32) h0 n0 O E G0 G1 G2 El F3 F2 V1 E_t0 ne_t0) hZ (hw _ (own_g (i := 179) rfl)) (hw _ (own_g (i := 90) rfl)) (by decide) (by decide)) q1a q1c (g := (mkF m 1 #[.val (.ref cu), .unset] [(.ref cu)])) rfl (by rw [hml]; rfl) (Steps.refl _) (argsL := []) (rest := []) (lenOf pd_16 rfl) rfl (by show 2 * 0 + _ ≤ _; exact Nat.le_of_eq rfl) (hb hby d_prog_92_method_4_1) (fun _ hWm => ⟨rfl, e0, (by decide : 0 + 0 ≤ _), (by decide : 0 + 0 ≤ _)⟩)
  dsimp only [Pt.U, Pt.locs, Pt.cells, Pt.slots] at X1 l1 y1 z1 st1 hQ1
  subst l1 y1 z1
  obtain ⟨r1, rfl, Nq1, Kq1, cq1_0, cq1_1⟩ := hQ1
  replace N := Fr.app N Nq1
  refine own_go (B := T1.setTop (mkF m 4 #[.val (.ref cu), .unset] [(.ref r1)])) (fun t k => st1.trans k) ?_
  refine own_go (B := T1.setTop (mkF m 7 #[.val (.ref cu), .val (.ref r1)] [(.ref cu), (.ref r1)])) (fun t k => ?_) ?_
  · show Steps p.tables e below (T1.setTop (mkF m 4 #[.val (.ref cu), .unset] [(.ref r1)])) _
    refine XS.astoreN X1.here hx rfl (hb hby d_prog_92_method_4_4) rfl rfl (l' := #[.val (.ref cu), .val (.ref r1)]) rfl ?_
    show Steps p.tables e below (T1.setTop (mkF m 5 #[.val (.ref cu), .val (.ref r1)] [])) _
    refine XS.aloadN X1.here hx rfl (hb hby d_prog_92_method_4_5) rfl rfl ?_
    show Steps p.tables e below (T1.setTop (mkF m 6 #[.val (.ref cu), .val (.ref r1)] [(.ref r1)])) _
    refine XS.aloadN X1.here hx rfl (hb hby d_prog_92_method_4_6) rfl rfl ?_
    show Steps p.tables e below (T1.setTop (mkF m 7 #[.val (.ref cu), .val (.ref r1)] [(.ref cu), (.ref r1)])) _
    exact k
  obtain ⟨T2, X2, e2, st2⟩ := getF X1 hx hZ hown (host := "") (Or.inl (hw _ (own_g (i := 102) rfl))) Via.refl Kq1 G1 (g := (mkF m 7 #[.val (.ref cu), .val (.ref r1)] [(.ref cu), (.ref r1)])) rfl rfl (hb hby d_prog_92_method_4_7)
  refine own_go (B := T2.setTop (mkF m 10 #[.val (.ref cu), .val (.ref r1)] [(.ref en), (.ref r1)])) st2 ?_
  refine own_go (B := T2.setTop (mkF m 24 #[.val (.ref cu), .val (.ref r1)] [(.ref r1)])) (fun t k => ?_) ?_
  · show Steps p.tables e below (T2.setTop (mkF m 10 #[.val (.ref cu), .val (.ref r1)] [(.ref en), (.ref r1)])) _
    refine Jvm.RoadKit.acmp (g := (mkF m 10 #[.val (.ref cu), .val (.ref r1)] [(.ref en), (.ref r1)])) X2 hx rfl rfl rfl (pc0 := 10) (pc' := 23) (same := true) rfl (hb hby d_prog_92_method_4_10) rfl (decide_eq_true (congrArg Value.ref (cq1_1 (by decide)))) (by decide) (by decide) ?_
    show Steps p.tables e below (T2.setTop (mkF m 23 #[.val (.ref cu), .val (.ref r1)] [])) _
    refine XS.aloadN X2.here hx rfl (hb hby d_prog_92_method_4_23) rfl rfl ?_
    show Steps p.tables e below (T2.setTop (mkF m 24 #[.val (.ref cu), .val (.ref r1)] [(.ref r1)])) _
    exact k
  obtain ⟨fs, hr, hrun, hended, hW, hsame⟩ := X2.leave (v := some (.ref r1)) (fun h => by rw [Bd.returns] at h; cases h)
  refine ⟨_, _, own_retA X2 hx rfl Bd.returns rfl (hb hby d_prog_92_method_4_24) hr, hfin _ _ ⟨hrun, hended, _, _, rfl, ?_, ⟨_, rfl⟩, hW, hsame.mono (by decide) (by decide)⟩⟩
  show QNx11 Z cu li en da kda t0 h0 n0 _ T2.heap _
  exact ⟨r1, rfl, N, e2⟩
def QPk2 (Z : State) (cu : Addr) (li : Addr) (en : Addr) (da : Addr) (kda : ClassId) (t0 : Addr) (t1 : Addr) (ata : Int32) (p1 : Int32) (h0 : Heap) (n0 : Nat) (v : Option Value) (h : Heap) (L : List Loc) : Prop := ∃ r : Addr, v = some (.ref r) ∧ Fr n0 L ∧ h = h0 ∧ (own_in (ata + p1) (2 : Int32) → ¬ r = en) ∧ (¬ own_in (ata + p1) (2 : Int32) → r = en)
theorem ef_Pk2 (m : MethodId) (cu : Addr) (p1 : Int32) : entryFrame m #[(.ref cu), (.int p1)] 3 = mkF m 0 #[.val (.ref cu), .val (.int p1), .unset] [] := by first | (simp [entryFrame, mkF, argsToLocals, Value.category]; done) | rfl | (rfl)
set_option maxRecDepth 65536 in
set_option maxHeartbeats 40000000 in
theorem rmPk2 (l : Launch) (Z : State) (a0 : Array Value) (hw : ∀ d ∈ tables_1, d.before a0 Z = true) (ws : List Jvm.Cond) (cu : Addr) (li : Addr) (en : Addr) (da : Addr) (kda : ClassId) (t0 : Addr) (t1 : Addr) (ata : Int32) (p1 : Int32) (h0 : Heap) (n0 : Nat) (O : Old Z n0 h0) (E : Exa Z h0 cu "com/example/nasute/nasute/sql/TokenCursorIsTextEndPinLaw") (G0 : Fld Z h0 cu "com/example/nasute/nasute/sql/TokenCursor" "tokens" "Ljava/util/List;" (.ref li)) (G1 : Fld Z h0 cu "com/example/nasute/nasute/sql/TokenCursor" "end" "Lcom/example/nasute/nasute/sql/Token;" (.ref en)) (G2 : Fld Z h0 cu "com/example/nasute/nasute/sql/TokenCursor" "at" "I" (.int ata)) (El : Exa Z h0 li "java/util/ArrayList") (F3 : Fld Z h0 li "java/util/ArrayList" "size" "I" (.int (2 : Int32))) (F2 : Fld Z h0 li "java/util/ArrayList" "elementData" "[Ljava/lang/Object;" (.ref da)) (V1 : Arv Z h0 da kda (.object "java/lang/Object") (10 : Int32) [(.ref t0), (.ref t1), .null, .null, .null, .null, .null, .null, .null, .null] .null) (E_t0 : Exa Z h0 t0 "com/example/nasute/nasute/sql/Token") (E_t1 : Exa Z h0 t1 "com/example/nasute/nasute/sql/Token") (ne_t0 : t0 ≠ en) (ne_t1 : t1 ≠ en) :
    MetFree l (⟨"com/example/nasute/nasute/sql/TokenCursor", "peek", "(I)Lcom/example/nasute/nasute/sql/Token;"⟩ : MethodName) (head1 (Jvm.Cond.code (⟨"com/example/nasute/nasute/sql/TokenCursor", "peek", "(I)Lcom/example/nasute/nasute/sql/Token;"⟩ : MethodName) prog_92_method_3_code 3 (some (.object "com/example/nasute/nasute/sql/Token")) :: ws) ({ frames := 3, cells := 0, slots := 0, locals := 40 } : Room)) (fun as_ U => as_ = #[(.ref cu), (.int p1)] ∧ Z.Warmed39 U.vm ∧ U.heap = h0) (fun _ _ _ _ _ => True) (fun _ U oo_ U' => ∃ vv_ LL_, oo_ = .returned vv_ ∧ QPk2 Z cu li en da kda t0 t1 ata p1 h0 n0 vv_ U'.heap LL_ ∧ FrameEnd U oo_ U' LL_ ({ frames := 3, cells := 0, slots := 0, locals := 40 } : Room).cells ({ frames := 3, cells := 0, slots := 0, locals := 40 } : Room).slots) := by
  refine MetFree.of_bodySF (plainFor_of_name pn_10) hisR ?_
  intro p e s m args below meth c s₁ Bd hml0 hP hK
  obtain ⟨rfl, hZ, hh⟩ := hP
  have hx := Bd.exec
  have hby := Bd.bytes
  have hml : c.maxLocals = 3 := hml0
  have hown : s.vm.findClass "com/example/nasute/nasute/sql/TokenCursor" = some m.cls := findClass_of_methodNamed Bd.named
  have hnm := (name_of_methodNamed Bd.named Bd.method).1
  have X0 : Stand p l e ({ frames := 3, cells := 0, slots := 0, locals := 40 } : Room) s m #[(.ref cu), (.int p1)] below meth c s₁ [] 0 0 := Stand.of_body Bd
  have e0 : s₁.heap = h0 := by rw [← hh, Bd.state]; rfl
  have N := Fr.nil n0
  have K : Keep h0 h0 [] := Keep.refl h0 _
  refine own_go (B := s₁.setTop (mkF m 0 #[.val (.ref cu), .val (.int p1), .unset] [])) (fun t k => castTop (ef_Pk2 m cu p1) k) ?_
  refine own_abs (fun P hfin => ?_)
  refine own_go (B := s₁.setTop (mkF m 1 #[.val (.ref cu), .val (.int p1), .unset] [(.ref cu)])) (fun t k => ?_) ?_
  · show Steps p.tables e below (s₁.setTop (mkF m 0 #[.val (.ref cu), .val (.int p1), .unset] [])) _
    refine XS.aloadN X0.here hx rfl (hb hby d_prog_92_method_3_0) rfl rfl ?_
    show Steps p.tables e below (s₁.setTop (mkF m 1 #[.val (.ref cu), .val (.int p1), .unset] [(.ref cu)])) _
    exact k
  obtain ⟨T1, X1, e1, st1⟩ := getF X0 hx hZ hown (host := "") (Or.inl (hw _ (own_g (i := 114) rfl))) Via.refl e0 G2 (g := (mkF m 1 #[.val (.ref cu), .val (.int p1), .unset] [(.ref cu)])) rfl rfl (hb hby d_prog_92_method_3_1)
  refine own_go (B := T1.setTop (mkF m 4 #[.val (.ref cu), .val (.int p1), .unset] [(.int ata)])) st1 ?_
  refine own_go (B := T1.setTop (mkF m 7 #[.val (.ref cu), .val (.int p1), .val (.int (ata + p1))] [])) (fun t k => ?_) ?_
  · show Steps p.tables e below (T1.setTop (mkF m 4 #[.val (.ref cu), .val (.int p1), .unset] [(.int ata)])) _
    refine XS.iloadN X1.here hx rfl (hb hby d_prog_92_method_3_4) rfl ?_
    show Steps p.tables e below (T1.setTop (mkF m 5 #[.val (.ref cu), .val (.int p1), .unset] [(.int p1), (.int ata)])) _
    refine XS.iadd X1.here hx rfl (hb hby d_prog_92_method_3_5) rfl ?_
    show Steps p.tables e below (T1.setTop (mkF m 6 #[.val (.ref cu), .val (.int p1), .unset] [(.int (ata + p1))])) _
    refine XS.istoreN X1.here hx rfl (hb hby d_prog_92_method_3_6) rfl (l' := #[.val (.ref cu), .val (.int p1), .val (.int (ata + p1))]) rfl ?_
    show Steps p.tables e below (T1.setTop (mkF m 7 #[.val (.ref cu), .val (.int p1), .val (.int (ata + p1))] [])) _
    exact k
  obtain ⟨ix, hix⟩ : ∃ z : Int32, z = (ata + p1) := ⟨_, rfl⟩
  rw [← hix]
  refine own_go (B := T1.setTop (mkF m 8 #[.val (.ref cu), .val (.int p1), .val (.int ix)] [(.int ix)])) (fun t k => ?_) ?_
  · show Steps p.tables e below (T1.setTop (mkF m 7 #[.val (.ref cu), .val (.int p1), .val (.int ix)] [])) _
    refine XS.iloadN X1.here hx rfl (hb hby d_prog_92_method_3_7) rfl ?_
    show Steps p.tables e below (T1.setTop (mkF m 8 #[.val (.ref cu), .val (.int p1), .val (.int ix)] [(.int ix)])) _
    exact k
  by_cases s8 : ix < (0 : Int32)
  · refine own_go (B := T1.setTop (mkF m 41 #[.val (.ref cu), .val (.int p1), .val (.int ix)] [(.ref cu)])) (fun t k => ?_) ?_
    · show Steps p.tables e below (T1.setTop (mkF m 8 #[.val (.ref cu), .val (.int p1), .val (.int ix)] [(.int ix)])) _
      refine XS.ifYes X1.here hx rfl (pc0 := 8) (pc' := 40) rfl (hb hby d_prog_92_method_3_8) rfl ((if0 _ _).trans (tlt s8).1) (by decide) (by decide) ?_
      show Steps p.tables e below (T1.setTop (mkF m 40 #[.val (.ref cu), .val (.int p1), .val (.int ix)] [])) _
      refine XS.aloadN X1.here hx rfl (hb hby d_prog_92_method_3_40) rfl rfl ?_
      show Steps p.tables e below (T1.setTop (mkF m 41 #[.val (.ref cu), .val (.int p1), .val (.int ix)] [(.ref cu)])) _
      exact k
    obtain ⟨T2, X2, e2, st2⟩ := getF X1 hx hZ hown (host := "") (Or.inl (hw _ (own_g (i := 102) rfl))) Via.refl e1 G1 (g := (mkF m 41 #[.val (.ref cu), .val (.int p1), .val (.int ix)] [(.ref cu)])) rfl rfl (hb hby d_prog_92_method_3_41)
    refine own_go (B := T2.setTop (mkF m 44 #[.val (.ref cu), .val (.int p1), .val (.int ix)] [(.ref en)])) st2 ?_
    obtain ⟨fs, hr, hrun, hended, hW, hsame⟩ := X2.leave (v := some (.ref en)) (fun h => by rw [Bd.returns] at h; cases h)
    refine ⟨_, _, own_retA X2 hx rfl Bd.returns rfl (hb hby d_prog_92_method_3_44) hr, hfin _ _ ⟨hrun, hended, _, _, rfl, ?_, ⟨_, rfl⟩, hW, hsame.mono (by decide) (by decide)⟩⟩
    show QPk2 Z cu li en da kda t0 t1 ata p1 h0 n0 _ T2.heap _
    exact ⟨en, rfl, N, e2, (fun qq_ => absurd (hix ▸ s8) qq_.1), (fun _ => rfl)⟩
  · refine own_go (B := T1.setTop (mkF m 13 #[.val (.ref cu), .val (.int p1), .val (.int ix)] [(.ref cu), (.int ix)])) (fun t k => ?_) ?_
    · show Steps p.tables e below (T1.setTop (mkF m 8 #[.val (.ref cu), .val (.int p1), .val (.int ix)] [(.int ix)])) _
      refine XS.ifNo X1.here hx rfl (hb hby d_prog_92_method_3_8) rfl ((if0 _ _).trans (flt s8).1) ?_
      show Steps p.tables e below (T1.setTop (mkF m 11 #[.val (.ref cu), .val (.int p1), .val (.int ix)] [])) _
      refine XS.iloadN X1.here hx rfl (hb hby d_prog_92_method_3_11) rfl ?_
      show Steps p.tables e below (T1.setTop (mkF m 12 #[.val (.ref cu), .val (.int p1), .val (.int ix)] [(.int ix)])) _
      refine XS.aloadN X1.here hx rfl (hb hby d_prog_92_method_3_12) rfl rfl ?_
      show Steps p.tables e below (T1.setTop (mkF m 13 #[.val (.ref cu), .val (.int p1), .val (.int ix)] [(.ref cu), (.int ix)])) _
      exact k
    obtain ⟨T4, X4, e4, st4⟩ := getF X1 hx hZ hown (host := "") (Or.inl (hw _ (own_g (i := 93) rfl))) Via.refl e1 G0 (g := (mkF m 13 #[.val (.ref cu), .val (.int p1), .val (.int ix)] [(.ref cu), (.int ix)])) rfl rfl (hb hby d_prog_92_method_3_13)
    refine own_go (B := T4.setTop (mkF m 16 #[.val (.ref cu), .val (.int p1), .val (.int ix)] [(.ref li), (.int ix)])) st4 ?_
    -- pc 16: java/util/ArrayList.size
    obtain ⟨cq5, kq5, q5a, q5b, q5c⟩ := isOf hZ e4 El
    obtain ⟨_, _, ⟨T5, L5, k5, n5⟩, -, X5, ⟨Lc5, hQ5, l5, y5, z5⟩, st5⟩ := X4.interfaceBack hx (xi := (⟨"java/util/List", "size", "()I"⟩ : MethodName)) (y := (⟨"java/util/ArrayList", "size", "()I"⟩ : MethodName)) hown (mvT hZ (hw _ (own_g (i := 116) rfl))) (mvT hZ (hw _ (own_g (i := 117) rfl))) (mvT hZ (hw _ (own_g (i := 118) rfl))) (mvT hZ (hw _ (own_g (i := 119) rfl))) (mvT hZ (hw _ (own_g (i := 120) rfl))) (mvT hZ (hw _ (own_g (i := 121) rfl))) (mvT hZ (hw _ (own_g (i := 122) rfl))) (mvT hZ (hw _ (own_g (i := 123) rfl))) (by decide) (backOf (W := 1) (rmSz2 l Z a0 hw [] li h0 n0 O F3) hZ (hw _ (own_g (i := 124) rfl)) (hw _ (own_g (i := 60) rfl)) (by decide) (by decide)) q5a q5b q5c (g := (mkF m 16 #[.val (.ref cu), .val (.int p1), .val (.int ix)] [(.ref li), (.int ix)])) rfl (by rw [hml]; rfl) (Steps.refl _) (argsL := []) (rest := [(.int ix)]) (lenOf pd_14 rfl) rfl (by show 2 * 0 + _ ≤ _; exact Nat.le_of_eq rfl) (hb hby d_prog_92_method_3_16) (fun _ hWm => ⟨rfl, e4, (by decide : 0 + 0 ≤ _), (by decide : 0 + 0 ≤ _)⟩)
    dsimp only [Pt.U, Pt.locs, Pt.cells, Pt.slots] at X5 l5 y5 z5 st5 hQ5
    subst l5 y5 z5
    obtain ⟨rfl, Nq5, Kq5⟩ := hQ5
    replace N := Fr.app N Nq5
    refine own_go (B := T5.setTop (mkF m 21 #[.val (.ref cu), .val (.int p1), .val (.int ix)] [(.int (2 : Int32)), (.int ix)])) (fun t k => st5.trans k) ?_
    by_cases s21 : ix < (2 : Int32)
    · refine own_go (B := T5.setTop (mkF m 24 #[.val (.ref cu), .val (.int p1), .val (.int ix)] [])) (fun t k => ?_) ?_
      · show Steps p.tables e below (T5.setTop (mkF m 21 #[.val (.ref cu), .val (.int p1), .val (.int ix)] [(.int (2 : Int32)), (.int ix)])) _
        refine XS.icmpNo X5.here hx rfl (hb hby d_prog_92_method_3_21) rfl (tlt s21).2.1 ?_
        show Steps p.tables e below (T5.setTop (mkF m 24 #[.val (.ref cu), .val (.int p1), .val (.int ix)] [])) _
        exact k
      have hin := (⟨s8, s21⟩ : own_in ix (2 : Int32))
      rw [hix] at hin
      by_cases z0 : ix = (0 : Int32)
      · refine own_go (B := T5.setTop (mkF m 25 #[.val (.ref cu), .val (.int p1), .val (.int ix)] [(.ref cu)])) (fun t k => ?_) ?_
        · show Steps p.tables e below (T5.setTop (mkF m 24 #[.val (.ref cu), .val (.int p1), .val (.int ix)] [])) _
          refine XS.aloadN X5.here hx rfl (hb hby d_prog_92_method_3_24) rfl rfl ?_
          show Steps p.tables e below (T5.setTop (mkF m 25 #[.val (.ref cu), .val (.int p1), .val (.int ix)] [(.ref cu)])) _
          exact k
        subst z0
        obtain ⟨T6, X6, e6, st6⟩ := getF X5 hx hZ hown (host := "") (Or.inl (hw _ (own_g (i := 93) rfl))) Via.refl Kq5 G0 (g := (mkF m 25 #[.val (.ref cu), .val (.int p1), .val (.int (0 : Int32))] [(.ref cu)])) rfl rfl (hb hby d_prog_92_method_3_25)
        refine own_go (B := T6.setTop (mkF m 28 #[.val (.ref cu), .val (.int p1), .val (.int (0 : Int32))] [(.ref li)])) st6 ?_
        refine own_go (B := T6.setTop (mkF m 29 #[.val (.ref cu), .val (.int p1), .val (.int (0 : Int32))] [(.int (0 : Int32)), (.ref li)])) (fun t k => ?_) ?_
        · show Steps p.tables e below (T6.setTop (mkF m 28 #[.val (.ref cu), .val (.int p1), .val (.int (0 : Int32))] [(.ref li)])) _
          refine XS.iloadN X6.here hx rfl (hb hby d_prog_92_method_3_28) rfl ?_
          show Steps p.tables e below (T6.setTop (mkF m 29 #[.val (.ref cu), .val (.int p1), .val (.int (0 : Int32))] [(.int (0 : Int32)), (.ref li)])) _
          exact k
        -- pc 29: java/util/ArrayList.get
        obtain ⟨cq7, kq7, q7a, q7b, q7c⟩ := isOf hZ e6 El
        obtain ⟨_, _, ⟨T7, L7, k7, n7⟩, -, X7, ⟨Lc7, hQ7, l7, y7, z7⟩, st7⟩ := X6.interfaceBack hx (xi := (⟨"java/util/List", "get", "(I)Ljava/lang/Object;"⟩ : MethodName)) (y := (⟨"java/util/ArrayList", "get", "(I)Ljava/lang/Object;"⟩ : MethodName)) hown (mvT hZ (hw _ (own_g (i := 182) rfl))) (mvT hZ (hw _ (own_g (i := 183) rfl))) (mvT hZ (hw _ (own_g (i := 184) rfl))) (mvT hZ (hw _ (own_g (i := 185) rfl))) (mvT hZ (hw _ (own_g (i := 186) rfl))) (mvT hZ (hw _ (own_g (i := 187) rfl))) (mvT hZ (hw _ (own_g (i := 188) rfl))) (mvT hZ (hw _ (own_g (i := 123) rfl))) (by decide) (backOf (W := 0) (rmGt20 l Z a0 hw [] li da kda t0 t1 h0 n0 O El F3 F2 V1) hZ (hw _ (own_g (i := 189) rfl)) (hw _ (own_g (i := 60) rfl)) (by decide) (by decide)) q7a q7b q7c (g := (mkF m 29 #[.val (.ref cu), .val (.int p1), .val (.int (0 : Int32))] [(.int (0 : Int32)), (.ref li)])) rfl (by rw [hml]; rfl) (Steps.refl _) (argsL := [(.int (0 : Int32))]) (rest := []) (lenOf pd_12 rfl) rfl (by show 2 * 0 + _ ≤ _; exact Nat.le_of_eq rfl) (hb hby d_prog_92_method_3_29) (fun _ hWm => ⟨rfl, e6, (by decide : 0 + 0 ≤ _), (by decide : 0 + 0 ≤ _)⟩)
        dsimp only [Pt.U, Pt.locs, Pt.cells, Pt.slots] at X7 l7 y7 z7 st7 hQ7
        subst l7 y7 z7
        obtain ⟨rfl, Nq7, Kq7⟩ := hQ7
        replace N := Fr.app N Nq7
        refine own_go (B := T7.setTop (mkF m 34 #[.val (.ref cu), .val (.int p1), .val (.int (0 : Int32))] [(.ref t0)])) (fun t k => st7.trans k) ?_
        obtain ⟨T8, X8, e8, st8⟩ := castY X7 hx hZ hown (hw _ (own_g (i := 95) rfl)) Kq7 (Ins.self E_t0) (g := (mkF m 34 #[.val (.ref cu), .val (.int p1), .val (.int (0 : Int32))] [(.ref t0)])) rfl rfl (hb hby d_prog_92_method_3_34)
        refine own_go (B := T8.setTop (mkF m 37 #[.val (.ref cu), .val (.int p1), .val (.int (0 : Int32))] [(.ref t0)])) st8 ?_
        refine own_go (B := T8.setTop (mkF m 44 #[.val (.ref cu), .val (.int p1), .val (.int (0 : Int32))] [(.ref t0)])) (fun t k => ?_) ?_
        · show Steps p.tables e below (T8.setTop (mkF m 37 #[.val (.ref cu), .val (.int p1), .val (.int (0 : Int32))] [(.ref t0)])) _
          refine XS.goto X8.here hx rfl (pc0 := 37) (pc' := 44) rfl (hb hby d_prog_92_method_3_37) (by decide) (by decide) ?_
          show Steps p.tables e below (T8.setTop (mkF m 44 #[.val (.ref cu), .val (.int p1), .val (.int (0 : Int32))] [(.ref t0)])) _
          exact k
        obtain ⟨fs, hr, hrun, hended, hW, hsame⟩ := X8.leave (v := some (.ref t0)) (fun h => by rw [Bd.returns] at h; cases h)
        refine ⟨_, _, own_retA X8 hx rfl Bd.returns rfl (hb hby d_prog_92_method_3_44) hr, hfin _ _ ⟨hrun, hended, _, _, rfl, ?_, ⟨_, rfl⟩, hW, hsame.mono (by decide) (by decide)⟩⟩
        show QPk2 Z cu li en da kda t0 t1 ata p1 h0 n0 _ T8.heap _
        exact ⟨t0, rfl, N, e8, (fun _ => ne_t0), (fun qq_ => absurd hin qq_)⟩
      · refine own_go (B := T5.setTop (mkF m 25 #[.val (.ref cu), .val (.int p1), .val (.int ix)] [(.ref cu)])) (fun t k => ?_) ?_
        · show Steps p.tables e below (T5.setTop (mkF m 24 #[.val (.ref cu), .val (.int p1), .val (.int ix)] [])) _
          refine XS.aloadN X5.here hx rfl (hb hby d_prog_92_method_3_24) rfl rfl ?_
          show Steps p.tables e below (T5.setTop (mkF m 25 #[.val (.ref cu), .val (.int p1), .val (.int ix)] [(.ref cu)])) _
          exact k
        have z1 : ix = (1 : Int32) := own_is1 s8 s21 z0
        subst z1
        obtain ⟨T10, X10, e10, st10⟩ := getF X5 hx hZ hown (host := "") (Or.inl (hw _ (own_g (i := 93) rfl))) Via.refl Kq5 G0 (g := (mkF m 25 #[.val (.ref cu), .val (.int p1), .val (.int (1 : Int32))] [(.ref cu)])) rfl rfl (hb hby d_prog_92_method_3_25)
        refine own_go (B := T10.setTop (mkF m 28 #[.val (.ref cu), .val (.int p1), .val (.int (1 : Int32))] [(.ref li)])) st10 ?_
        refine own_go (B := T10.setTop (mkF m 29 #[.val (.ref cu), .val (.int p1), .val (.int (1 : Int32))] [(.int (1 : Int32)), (.ref li)])) (fun t k => ?_) ?_
        · show Steps p.tables e below (T10.setTop (mkF m 28 #[.val (.ref cu), .val (.int p1), .val (.int (1 : Int32))] [(.ref li)])) _
          refine XS.iloadN X10.here hx rfl (hb hby d_prog_92_method_3_28) rfl ?_
          show Steps p.tables e below (T10.setTop (mkF m 29 #[.val (.ref cu), .val (.int p1), .val (.int (1 : Int32))] [(.int (1 : Int32)), (.ref li)])) _
          exact k
        -- pc 29: java/util/ArrayList.get
        obtain ⟨cq11, kq11, q11a, q11b, q11c⟩ := isOf hZ e10 El
        obtain ⟨_, _, ⟨T11, L11, k11, n11⟩, -, X11, ⟨Lc11, hQ11, l11, y11, z11⟩, st11⟩ := X10.interfaceBack hx (xi := (⟨"java/util/List", "get", "(I)Ljava/lang/Object;"⟩ : MethodName)) (y := (⟨"java/util/ArrayList", "get", "(I)Ljava/lang/Object;"⟩ : MethodName)) hown (mvT hZ (hw _ (own_g (i := 182) rfl))) (mvT hZ (hw _ (own_g (i := 183) rfl))) (mvT hZ (hw _ (own_g (i := 184) rfl))) (mvT hZ (hw _ (own_g (i := 185) rfl))) (mvT hZ (hw _ (own_g (i := 186) rfl))) (mvT hZ (hw _ (own_g (i := 187) rfl))) (mvT hZ (hw _ (own_g (i := 188) rfl))) (mvT hZ (hw _ (own_g (i := 123) rfl))) (by decide) (backOf (W := 0) (rmGt21 l Z a0 hw [] li da kda t0 t1 h0 n0 O El F3 F2 V1) hZ (hw _ (own_g (i := 189) rfl)) (hw _ (own_g (i := 60) rfl)) (by decide) (by decide)) q11a q11b q11c (g := (mkF m 29 #[.val (.ref cu), .val (.int p1), .val (.int (1 : Int32))] [(.int (1 : Int32)), (.ref li)])) rfl (by rw [hml]; rfl) (Steps.refl _) (argsL := [(.int (1 : Int32))]) (rest := []) (lenOf pd_12 rfl) rfl (by show 2 * 0 + _ ≤ _; exact Nat.le_of_eq rfl) (hb hby d_prog_92_method_3_29) (fun _ hWm => ⟨rfl, e10, (by decide : 0 + 0 ≤ _), (by decide : 0 + 0 ≤ _)⟩)
        dsimp only [Pt.U, Pt.locs, Pt.cells, Pt.slots] at X11 l11 y11 z11 st11 hQ11
        subst l11 y11 z11
        obtain ⟨rfl, Nq11, Kq11⟩ := hQ11
        replace N := Fr.app N Nq11
        refine own_go (B := T11.setTop (mkF m 34 #[.val (.ref cu), .val (.int p1), .val (.int (1 : Int32))] [(.ref t1)])) (fun t k => st11.trans k) ?_
        obtain ⟨T12, X12, e12, st12⟩ := castY X11 hx hZ hown (hw _ (own_g (i := 95) rfl)) Kq11 (Ins.self E_t1) (g := (mkF m 34 #[.val (.ref cu), .val (.int p1), .val (.int (1 : Int32))] [(.ref t1)])) rfl rfl (hb hby d_prog_92_method_3_34)
        refine own_go (B := T12.setTop (mkF m 37 #[.val (.ref cu), .val (.int p1), .val (.int (1 : Int32))] [(.ref t1)])) st12 ?_
        refine own_go (B := T12.setTop (mkF m 44 #[.val (.ref cu), .val (.int p1), .val (.int (1 : Int32))] [(.ref t1)])) (fun t k => ?_) ?_
        · show Steps p.tables e below (T12.setTop (mkF m 37 #[.val (.ref cu), .val (.int p1), .val (.int (1 : Int32))] [(.ref t1)])) _
          refine XS.goto X12.here hx rfl (pc0 := 37) (pc' := 44) rfl (hb hby d_prog_92_method_3_37) (by decide) (by decide) ?_
          show Steps p.tables e below (T12.setTop (mkF m 44 #[.val (.ref cu), .val (.int p1), .val (.int (1 : Int32))] [(.ref t1)])) _
          exact k
        obtain ⟨fs, hr, hrun, hended, hW, hsame⟩ := X12.leave (v := some (.ref t1)) (fun h => by rw [Bd.returns] at h; cases h)
        refine ⟨_, _, own_retA X12 hx rfl Bd.returns rfl (hb hby d_prog_92_method_3_44) hr, hfin _ _ ⟨hrun, hended, _, _, rfl, ?_, ⟨_, rfl⟩, hW, hsame.mono (by decide) (by decide)⟩⟩
        show QPk2 Z cu li en da kda t0 t1 ata p1 h0 n0 _ T12.heap _
        exact ⟨t1, rfl, N, e12, (fun _ => ne_t1), (fun qq_ => absurd hin qq_)⟩
    · refine own_go (B := T5.setTop (mkF m 41 #[.val (.ref cu), .val (.int p1), .val (.int ix)] [(.ref cu)])) (fun t k => ?_) ?_
      · show Steps p.tables e below (T5.setTop (mkF m 21 #[.val (.ref cu), .val (.int p1), .val (.int ix)] [(.int (2 : Int32)), (.int ix)])) _
        refine XS.icmpYes X5.here hx rfl (pc0 := 21) (pc' := 40) rfl (hb hby d_prog_92_method_3_21) rfl (flt s21).2.1 (by decide) (by decide) ?_
        show Steps p.tables e below (T5.setTop (mkF m 40 #[.val (.ref cu), .val (.int p1), .val (.int ix)] [])) _
        refine XS.aloadN X5.here hx rfl (hb hby d_prog_92_method_3_40) rfl rfl ?_
        show Steps p.tables e below (T5.setTop (mkF m 41 #[.val (.ref cu), .val (.int p1), .val (.int ix)] [(.ref cu)])) _
        exact k
      obtain ⟨T14, X14, e14, st14⟩ := getF X5 hx hZ hown (host := "") (Or.inl (hw _ (own_g (i := 102) rfl))) Via.refl Kq5 G1 (g := (mkF m 41 #[.val (.ref cu), .val (.int p1), .val (.int ix)] [(.ref cu)])) rfl rfl (hb hby d_prog_92_method_3_41)
      refine own_go (B := T14.setTop (mkF m 44 #[.val (.ref cu), .val (.int p1), .val (.int ix)] [(.ref en)])) st14 ?_
      obtain ⟨fs, hr, hrun, hended, hW, hsame⟩ := X14.leave (v := some (.ref en)) (fun h => by rw [Bd.returns] at h; cases h)
      refine ⟨_, _, own_retA X14 hx rfl Bd.returns rfl (hb hby d_prog_92_method_3_44) hr, hfin _ _ ⟨hrun, hended, _, _, rfl, ?_, ⟨_, rfl⟩, hW, hsame.mono (by decide) (by decide)⟩⟩
      show QPk2 Z cu li en da kda t0 t1 ata p1 h0 n0 _ T14.heap _
      exact ⟨en, rfl, N, e14, (fun qq_ => absurd qq_.2 (hix ▸ s21)), (fun _ => rfl)⟩
def QPz2 (Z : State) (cu : Addr) (li : Addr) (en : Addr) (da : Addr) (kda : ClassId) (t0 : Addr) (t1 : Addr) (ata : Int32) (h0 : Heap) (n0 : Nat) (v : Option Value) (h : Heap) (L : List Loc) : Prop := ∃ r : Addr, v = some (.ref r) ∧ Fr n0 L ∧ h = h0 ∧ (own_in (ata + (0 : Int32)) (2 : Int32) → ¬ r = en) ∧ (¬ own_in (ata + (0 : Int32)) (2 : Int32) → r = en)
theorem ef_Pz2 (m : MethodId) (cu : Addr) : entryFrame m #[(.ref cu)] 1 = mkF m 0 #[.val (.ref cu)] [] := by first | (simp [entryFrame, mkF, argsToLocals, Value.category]; done) | rfl | (rfl)
set_option maxRecDepth 65536 in
set_option maxHeartbeats 40000000 in
theorem rmPz2 (l : Launch) (Z : State) (a0 : Array Value) (hw : ∀ d ∈ tables_1, d.before a0 Z = true) (ws : List Jvm.Cond) (cu : Addr) (li : Addr) (en : Addr) (da : Addr) (kda : ClassId) (t0 : Addr) (t1 : Addr) (ata : Int32) (h0 : Heap) (n0 : Nat) (O : Old Z n0 h0) (E : Exa Z h0 cu "com/example/nasute/nasute/sql/TokenCursorIsTextEndPinLaw") (G0 : Fld Z h0 cu "com/example/nasute/nasute/sql/TokenCursor" "tokens" "Ljava/util/List;" (.ref li)) (G1 : Fld Z h0 cu "com/example/nasute/nasute/sql/TokenCursor" "end" "Lcom/example/nasute/nasute/sql/Token;" (.ref en)) (G2 : Fld Z h0 cu "com/example/nasute/nasute/sql/TokenCursor" "at" "I" (.int ata)) (El : Exa Z h0 li "java/util/ArrayList") (F3 : Fld Z h0 li "java/util/ArrayList" "size" "I" (.int (2 : Int32))) (F2 : Fld Z h0 li "java/util/ArrayList" "elementData" "[Ljava/lang/Object;" (.ref da)) (V1 : Arv Z h0 da kda (.object "java/lang/Object") (10 : Int32) [(.ref t0), (.ref t1), .null, .null, .null, .null, .null, .null, .null, .null] .null) (E_t0 : Exa Z h0 t0 "com/example/nasute/nasute/sql/Token") (E_t1 : Exa Z h0 t1 "com/example/nasute/nasute/sql/Token") (ne_t0 : t0 ≠ en) (ne_t1 : t1 ≠ en) :
    MetFree l (⟨"com/example/nasute/nasute/sql/TokenCursor", "peek", "()Lcom/example/nasute/nasute/sql/Token;"⟩ : MethodName) (head1 (Jvm.Cond.code (⟨"com/example/nasute/nasute/sql/TokenCursor", "peek", "()Lcom/example/nasute/nasute/sql/Token;"⟩ : MethodName) prog_92_method_2_code 1 (some (.object "com/example/nasute/nasute/sql/Token")) :: ws) ({ frames := 4, cells := 0, slots := 0, locals := 54 } : Room)) (fun as_ U => as_ = #[(.ref cu)] ∧ Z.Warmed39 U.vm ∧ U.heap = h0) (fun _ _ _ _ _ => True) (fun _ U oo_ U' => ∃ vv_ LL_, oo_ = .returned vv_ ∧ QPz2 Z cu li en da kda t0 t1 ata h0 n0 vv_ U'.heap LL_ ∧ FrameEnd U oo_ U' LL_ ({ frames := 4, cells := 0, slots := 0, locals := 54 } : Room).cells ({ frames := 4, cells := 0, slots := 0, locals := 54 } : Room).slots) := by
  refine MetFree.of_bodySF (plainFor_of_name pn_10) hisR ?_
  intro p e s m args below meth c s₁ Bd hml0 hP hK
  obtain ⟨rfl, hZ, hh⟩ := hP
  have hx := Bd.exec
  have hby := Bd.bytes
  have hml : c.maxLocals = 1 := hml0
  have hown : s.vm.findClass "com/example/nasute/nasute/sql/TokenCursor" = some m.cls := findClass_of_methodNamed Bd.named
  have hnm := (name_of_methodNamed Bd.named Bd.method).1
  have X0 : Stand p l e ({ frames := 4, cells := 0, slots := 0, locals := 54 } : Room) s m #[(.ref cu)] below meth c s₁ [] 0 0 := Stand.of_body Bd
  have e0 : s₁.heap = h0 := by rw [← hh, Bd.state]; rfl
  have N := Fr.nil n0
  have K : Keep h0 h0 [] := Keep.refl h0 _
  refine own_go (B := s₁.setTop (mkF m 0 #[.val (.ref cu)] [])) (fun t k => castTop (ef_Pz2 m cu) k) ?_
  refine own_abs (fun P hfin => ?_)
  refine own_go (B := s₁.setTop (mkF m 2 #[.val (.ref cu)] [(.int (0 : Int32)), (.ref cu)])) (fun t k => ?_) ?_
  · show Steps p.tables e below (s₁.setTop (mkF m 0 #[.val (.ref cu)] [])) _
    refine XS.aloadN X0.here hx rfl (hb hby d_prog_92_method_2_0) rfl rfl ?_
    show Steps p.tables e below (s₁.setTop (mkF m 1 #[.val (.ref cu)] [(.ref cu)])) _
    refine XS.iconst X0.here hx rfl (hb hby d_prog_92_method_2_1) ?_
    show Steps p.tables e below (s₁.setTop (mkF m 2 #[.val (.ref cu)] [(.int (0 : Int32)), (.ref cu)])) _
    exact k
  -- pc 2: com/example/nasute/nasute/sql/TokenCursor.peek
  obtain ⟨cq1, kq1, q1a, q1b, q1c⟩ := isOf hZ e0 E
  obtain ⟨_, _, ⟨T1, L1, k1, n1⟩, -, X1, ⟨Lc1, hQ1, l1, y1, z1⟩, st1⟩ := X0.virtualBack hx (y := (⟨"com/example/nasute/nasute/sql/TokenCursor", "peek", "(I)Lcom/example/nasute/nasute/sql/Token;"⟩ : MethodName)) (z := (⟨"com/example/nasute/nasute/sql/TokenCursor", "peek", "(I)Lcom/example/nasute/nasute/sql/Token;"⟩ : MethodName)) hown (mvT hZ (hw _ (own_g (i := 180) rfl))) (mvT hZ (hw _ (own_g (i := 110) rfl))) (notFace_of_selects (args := #[]) (mvT hZ (hw _ (own_g (i := 181) rfl)))) (mvT hZ (hw _ (own_g (i := 181) rfl))) (mvT hZ (hw _ (own_g (i := 111) rfl))) (by decide) (backOf (W := 0) (rmPk2 l Z a0 hw [] cu li en da kda t0 t1 ata (0 : Int32) h0 n0 O E G0 G1 G2 El F3 F2 V1 E_t0 E_t1 ne_t0 ne_t1) hZ (hw _ (own_g (i := 113) rfl)) (hw _ (own_g (i := 90) rfl)) (by decide) (by decide)) q1a q1c (g := (mkF m 2 #[.val (.ref cu)] [(.int (0 : Int32)), (.ref cu)])) rfl (by rw [hml]; rfl) (Steps.refl _) (argsL := [(.int (0 : Int32))]) (rest := []) (lenOf pd_15 rfl) rfl (by show 2 * 0 + _ ≤ _; exact Nat.le_of_eq rfl) (hb hby d_prog_92_method_2_2) (fun _ hWm => ⟨rfl, e0, (by decide : 0 + 0 ≤ _), (by decide : 0 + 0 ≤ _)⟩)
  dsimp only [Pt.U, Pt.locs, Pt.cells, Pt.slots] at X1 l1 y1 z1 st1 hQ1
  subst l1 y1 z1
  obtain ⟨r1, rfl, Nq1, Kq1, cq1_0, cq1_1⟩ := hQ1
  replace N := Fr.app N Nq1
  refine own_go (B := T1.setTop (mkF m 5 #[.val (.ref cu)] [(.ref r1)])) (fun t k => st1.trans k) ?_
  obtain ⟨fs, hr, hrun, hended, hW, hsame⟩ := X1.leave (v := some (.ref r1)) (fun h => by rw [Bd.returns] at h; cases h)
  refine ⟨_, _, own_retA X1 hx rfl Bd.returns rfl (hb hby d_prog_92_method_2_5) hr, hfin _ _ ⟨hrun, hended, _, _, rfl, ?_, ⟨_, rfl⟩, hW, hsame.mono (by decide) (by decide)⟩⟩
  show QPz2 Z cu li en da kda t0 t1 ata h0 n0 _ T1.heap _
  exact ⟨r1, rfl, N, Kq1, cq1_0, cq1_1⟩
def QNx20 (Z : State) (cu : Addr) (li : Addr) (en : Addr) (da : Addr) (kda : ClassId) (t0 : Addr) (t1 : Addr) (h0 : Heap) (n0 : Nat) (v : Option Value) (h : Heap) (L : List Loc) : Prop := ∃ r : Addr, v = some (.ref r) ∧ Fr n0 L ∧ Keep h0 h [cu] ∧ Fld Z h cu "com/example/nasute/nasute/sql/TokenCursor" "tokens" "Ljava/util/List;" (.ref li) ∧ Fld Z h cu "com/example/nasute/nasute/sql/TokenCursor" "end" "Lcom/example/nasute/nasute/sql/Token;" (.ref en) ∧ Fld Z h cu "com/example/nasute/nasute/sql/TokenCursor" "at" "I" (.int (1 : Int32))
theorem ef_Nx20 (m : MethodId) (cu : Addr) : entryFrame m #[(.ref cu)] 2 = mkF m 0 #[.val (.ref cu), .unset] [] := by first | (simp [entryFrame, mkF, argsToLocals, Value.category]; done) | rfl | (rfl)
set_option maxRecDepth 65536 in
set_option maxHeartbeats 40000000 in
theorem rmNx20 (l : Launch) (Z : State) (a0 : Array Value) (hw : ∀ d ∈ tables_1, d.before a0 Z = true) (ws : List Jvm.Cond) (cu : Addr) (li : Addr) (en : Addr) (da : Addr) (kda : ClassId) (t0 : Addr) (t1 : Addr) (h0 : Heap) (n0 : Nat) (O : Old Z n0 h0) (E : Exa Z h0 cu "com/example/nasute/nasute/sql/TokenCursorIsTextEndPinLaw") (G0 : Fld Z h0 cu "com/example/nasute/nasute/sql/TokenCursor" "tokens" "Ljava/util/List;" (.ref li)) (G1 : Fld Z h0 cu "com/example/nasute/nasute/sql/TokenCursor" "end" "Lcom/example/nasute/nasute/sql/Token;" (.ref en)) (G2 : Fld Z h0 cu "com/example/nasute/nasute/sql/TokenCursor" "at" "I" (.int (0 : Int32))) (El : Exa Z h0 li "java/util/ArrayList") (F3 : Fld Z h0 li "java/util/ArrayList" "size" "I" (.int (2 : Int32))) (F2 : Fld Z h0 li "java/util/ArrayList" "elementData" "[Ljava/lang/Object;" (.ref da)) (V1 : Arv Z h0 da kda (.object "java/lang/Object") (10 : Int32) [(.ref t0), (.ref t1), .null, .null, .null, .null, .null, .null, .null, .null] .null) (E_t0 : Exa Z h0 t0 "com/example/nasute/nasute/sql/Token") (E_t1 : Exa Z h0 t1 "com/example/nasute/nasute/sql/Token") (ne_t0 : t0 ≠ en) (ne_t1 : t1 ≠ en) (ga : n0 ≤ cu) (nlc : li ≠ cu) (ndc : da ≠ cu) :
    MetFree l (⟨"com/example/nasute/nasute/sql/TokenCursor", "next", "()Lcom/example/nasute/nasute/sql/Token;"⟩ : MethodName) (head1 (Jvm.Cond.code (⟨"com/example/nasute/nasute/sql/TokenCursor", "next", "()Lcom/example/nasute/nasute/sql/Token;"⟩ : MethodName) prog_92_method_4_code 2 (some (.object "com/example/nasute/nasute/sql/Token")) :: ws) ({ frames := 5, cells := 0, slots := 0, locals := 66 } : Room)) (fun as_ U => as_ = #[(.ref cu)] ∧ Z.Warmed39 U.vm ∧ U.heap = h0) (fun _ _ _ _ _ => True) (fun _ U oo_ U' => ∃ vv_ LL_, oo_ = .returned vv_ ∧ QNx20 Z cu li en da kda t0 t1 h0 n0 vv_ U'.heap LL_ ∧ FrameEnd U oo_ U' LL_ ({ frames := 5, cells := 0, slots := 0, locals := 66 } : Room).cells ({ frames := 5, cells := 0, slots := 0, locals := 66 } : Room).slots) := by
  refine MetFree.of_bodySF (plainFor_of_name pn_10) hisR ?_
  intro p e s m args below meth c s₁ Bd hml0 hP hK
  obtain ⟨rfl, hZ, hh⟩ := hP
  have hx := Bd.exec
  have hby := Bd.bytes
  have hml : c.maxLocals = 2 := hml0
  have hown : s.vm.findClass "com/example/nasute/nasute/sql/TokenCursor" = some m.cls := findClass_of_methodNamed Bd.named
  have hnm := (name_of_methodNamed Bd.named Bd.method).1
  have X0 : Stand p l e ({ frames := 5, cells := 0, slots := 0, locals := 66 } : Room) s m #[(.ref cu)] below meth c s₁ [] 0 0 := Stand.of_body Bd
  have e0 : s₁.heap = h0 := by rw [← hh, Bd.state]; rfl
  have N := Fr.nil n0
  have K : Keep h0 h0 [cu] := Keep.refl h0 _
  refine own_go (B := s₁.setTop (mkF m 0 #[.val (.ref cu), .unset] [])) (fun t k => castTop (ef_Nx20 m cu) k) ?_
  refine own_abs (fun P hfin => ?_)
  refine own_go (B := s₁.setTop (mkF m 1 #[.val (.ref cu), .unset] [(.ref cu)])) (fun t k => ?_) ?_
  · show Steps p.tables e below (s₁.setTop (mkF m 0 #[.val (.ref cu), .unset] [])) _
    refine XS.aloadN X0.here hx rfl (hb hby d_prog_92_method_4_0) rfl rfl ?_
    show Steps p.tables e below (s₁.setTop (mkF m 1 #[.val (.ref cu), .unset] [(.ref cu)])) _
    exact k
  -- pc 1: com/example/nasute/nasute/sql/TokenCursor.peek
  obtain ⟨cq1, kq1, q1a, q1b, q1c⟩ := isOf hZ e0 E
  obtain ⟨_, _, ⟨T1, L1, k1, n1⟩, -, X1, ⟨Lc1, hQ1, l1, y1, z1⟩, st1⟩ := X0.virtualBack hx (y := (⟨"com/example/nasute/nasute/sql/TokenCursor", "peek", "()Lcom/example/nasute/nasute/sql/Token;"⟩ : MethodName)) (z := (⟨"com/example/nasute/nasute/sql/TokenCursor", "peek", "()Lcom/example/nasute/nasute/sql/Token;"⟩ : MethodName)) hown (mvT hZ (hw _ (own_g (i := 175) rfl))) (mvT hZ (hw _ (own_g (i := 176) rfl))) (notFace_of_selects (args := #[]) (mvT hZ (hw _ (own_g (i := 178) rfl)))) (mvT hZ (hw _ (own_g (i := 178) rfl))) (mvT hZ (hw _ (own_g (i := 177) rfl))) (by decide) (backOf (W := 0) (rmPz2 l Z a0 hw [] cu li en da kda t0 t1 (0 : Int32) h0 n0 O E G0 G1 G2 El F3 F2 V1 E_t0 E_t1 ne_t0 ne_t1) hZ (hw _ (own_g (i := 179) rfl)) (hw _ (own_g (i := 90) rfl)) (by decide) (by decide)) q1a q1c (g := (mkF m 1 #[.val (.ref cu), .unset] [(.ref cu)])) rfl (by rw [hml]; rfl) (Steps.refl _) (argsL := []) (rest := []) (lenOf pd_16 rfl) rfl (by show 2 * 0 + _ ≤ _; exact Nat.le_of_eq rfl) (hb hby d_prog_92_method_4_1) (fun _ hWm => ⟨rfl, e0, (by decide : 0 + 0 ≤ _), (by decide : 0 + 0 ≤ _)⟩)
  dsimp only [Pt.U, Pt.locs, Pt.cells, Pt.slots] at X1 l1 y1 z1 st1 hQ1
  subst l1 y1 z1
  obtain ⟨r1, rfl, Nq1, Kq1, cq1_0, cq1_1⟩ := hQ1
  replace N := Fr.app N Nq1
  refine own_go (B := T1.setTop (mkF m 4 #[.val (.ref cu), .unset] [(.ref r1)])) (fun t k => st1.trans k) ?_
  refine own_go (B := T1.setTop (mkF m 7 #[.val (.ref cu), .val (.ref r1)] [(.ref cu), (.ref r1)])) (fun t k => ?_) ?_
  · show Steps p.tables e below (T1.setTop (mkF m 4 #[.val (.ref cu), .unset] [(.ref r1)])) _
    refine XS.astoreN X1.here hx rfl (hb hby d_prog_92_method_4_4) rfl rfl (l' := #[.val (.ref cu), .val (.ref r1)]) rfl ?_
    show Steps p.tables e below (T1.setTop (mkF m 5 #[.val (.ref cu), .val (.ref r1)] [])) _
    refine XS.aloadN X1.here hx rfl (hb hby d_prog_92_method_4_5) rfl rfl ?_
    show Steps p.tables e below (T1.setTop (mkF m 6 #[.val (.ref cu), .val (.ref r1)] [(.ref r1)])) _
    refine XS.aloadN X1.here hx rfl (hb hby d_prog_92_method_4_6) rfl rfl ?_
    show Steps p.tables e below (T1.setTop (mkF m 7 #[.val (.ref cu), .val (.ref r1)] [(.ref cu), (.ref r1)])) _
    exact k
  obtain ⟨T2, X2, e2, st2⟩ := getF X1 hx hZ hown (host := "") (Or.inl (hw _ (own_g (i := 102) rfl))) Via.refl Kq1 G1 (g := (mkF m 7 #[.val (.ref cu), .val (.ref r1)] [(.ref cu), (.ref r1)])) rfl rfl (hb hby d_prog_92_method_4_7)
  refine own_go (B := T2.setTop (mkF m 10 #[.val (.ref cu), .val (.ref r1)] [(.ref en), (.ref r1)])) st2 ?_
  refine own_go (B := T2.setTop (mkF m 15 #[.val (.ref cu), .val (.ref r1)] [(.ref cu), (.ref cu)])) (fun t k => ?_) ?_
  · show Steps p.tables e below (T2.setTop (mkF m 10 #[.val (.ref cu), .val (.ref r1)] [(.ref en), (.ref r1)])) _
    refine Jvm.RoadKit.acmp (g := (mkF m 10 #[.val (.ref cu), .val (.ref r1)] [(.ref en), (.ref r1)])) X2 hx rfl rfl rfl (pc0 := 10) (pc' := 13) (same := false) rfl (hb hby d_prog_92_method_4_10) rfl (decide_eq_false fun q => (cq1_0 (by decide)) (Value.ref.inj q)) (by decide) (by decide) ?_
    show Steps p.tables e below (T2.setTop (mkF m 13 #[.val (.ref cu), .val (.ref r1)] [])) _
    refine XS.aloadN X2.here hx rfl (hb hby d_prog_92_method_4_13) rfl rfl ?_
    show Steps p.tables e below (T2.setTop (mkF m 14 #[.val (.ref cu), .val (.ref r1)] [(.ref cu)])) _
    refine XS.dup X2.here hx rfl (hb hby d_prog_92_method_4_14) rfl rfl ?_
    show Steps p.tables e below (T2.setTop (mkF m 15 #[.val (.ref cu), .val (.ref r1)] [(.ref cu), (.ref cu)])) _
    exact k
  obtain ⟨T3, X3, e3, st3⟩ := getF X2 hx hZ hown (host := "") (Or.inl (hw _ (own_g (i := 114) rfl))) Via.refl e2 G2 (g := (mkF m 15 #[.val (.ref cu), .val (.ref r1)] [(.ref cu), (.ref cu)])) rfl rfl (hb hby d_prog_92_method_4_15)
  refine own_go (B := T3.setTop (mkF m 18 #[.val (.ref cu), .val (.ref r1)] [(.int (0 : Int32)), (.ref cu)])) st3 ?_
  refine own_go (B := T3.setTop (mkF m 20 #[.val (.ref cu), .val (.ref r1)] [(.int ((0 : Int32) + (1 : Int32))), (.ref cu)])) (fun t k => ?_) ?_
  · show Steps p.tables e below (T3.setTop (mkF m 18 #[.val (.ref cu), .val (.ref r1)] [(.int (0 : Int32)), (.ref cu)])) _
    refine XS.iconst X3.here hx rfl (hb hby d_prog_92_method_4_18) ?_
    show Steps p.tables e below (T3.setTop (mkF m 19 #[.val (.ref cu), .val (.ref r1)] [(.int (1 : Int32)), (.int (0 : Int32)), (.ref cu)])) _
    refine XS.iadd X3.here hx rfl (hb hby d_prog_92_method_4_19) rfl ?_
    show Steps p.tables e below (T3.setTop (mkF m 20 #[.val (.ref cu), .val (.ref r1)] [(.int ((0 : Int32) + (1 : Int32))), (.ref cu)])) _
    exact k
  rw [(show ((0 : Int32) + (1 : Int32)) = (1 : Int32) from by decide)]
  obtain ⟨T4, h4, X4, e4, W4, st4⟩ := putF X3 hx hZ hown (host := "") (Or.inl (hw _ (own_g (i := 114) rfl))) Via.refl e3 G2 E (Or.inl (hw _ (own_g (i := 115) rfl))) (hw _ (own_g (i := 83) rfl)) (ty := .int) (by decide) rfl rfl (g := (mkF m 20 #[.val (.ref cu), .val (.ref r1)] [(.int (1 : Int32)), (.ref cu)])) rfl rfl (hb hby d_prog_92_method_4_20)
  have Fw4 := G2.same W4
  replace E := E.wr W4
  replace G0 := G0.other W4 (Or.inr (slot_ne (Or.inr (hw _ (own_g (i := 94) rfl))) (Or.inl (hw _ (own_g (i := 115) rfl))) (by decide) (t := (.object "java/util/List")) (t' := .int) (by decide) (by decide)))
  replace G1 := G1.other W4 (Or.inr (slot_ne (Or.inr (hw _ (own_g (i := 103) rfl))) (Or.inl (hw _ (own_g (i := 115) rfl))) (by decide) (t := (.object "com/example/nasute/nasute/sql/Token")) (t' := .int) (by decide) (by decide)))
  clear G2
  replace El := El.wr W4
  replace F3 := F3.other W4 (Or.inl nlc)
  replace F2 := F2.other W4 (Or.inl nlc)
  replace V1 := V1.other W4 ndc
  replace E_t0 := E_t0.wr W4
  replace E_t1 := E_t1.wr W4
  replace O := O.wr W4 ga
  replace K := K.wr W4 (Or.inl (own_g (i := 0) rfl))
  replace N := Fr.snoc X4 N ga
  refine own_go (B := T4.setTop (mkF m 23 #[.val (.ref cu), .val (.ref r1)] [])) st4 ?_
  refine own_go (B := T4.setTop (mkF m 24 #[.val (.ref cu), .val (.ref r1)] [(.ref r1)])) (fun t k => ?_) ?_
  · show Steps p.tables e below (T4.setTop (mkF m 23 #[.val (.ref cu), .val (.ref r1)] [])) _
    refine XS.aloadN X4.here hx rfl (hb hby d_prog_92_method_4_23) rfl rfl ?_
    show Steps p.tables e below (T4.setTop (mkF m 24 #[.val (.ref cu), .val (.ref r1)] [(.ref r1)])) _
    exact k
  obtain ⟨fs, hr, hrun, hended, hW, hsame⟩ := X4.leave (v := some (.ref r1)) (fun h => by rw [Bd.returns] at h; cases h)
  refine ⟨_, _, own_retA X4 hx rfl Bd.returns rfl (hb hby d_prog_92_method_4_24) hr, hfin _ _ ⟨hrun, hended, _, _, rfl, ?_, ⟨_, rfl⟩, hW, hsame.mono (by decide) (by decide)⟩⟩
  show QNx20 Z cu li en da kda t0 t1 h0 n0 _ T4.heap _
  rw [e4]
  exact ⟨r1, rfl, N, K, G0, G1, Fw4⟩
def QNx21 (Z : State) (cu : Addr) (li : Addr) (en : Addr) (da : Addr) (kda : ClassId) (t0 : Addr) (t1 : Addr) (h0 : Heap) (n0 : Nat) (v : Option Value) (h : Heap) (L : List Loc) : Prop := ∃ r : Addr, v = some (.ref r) ∧ Fr n0 L ∧ Keep h0 h [cu] ∧ Fld Z h cu "com/example/nasute/nasute/sql/TokenCursor" "tokens" "Ljava/util/List;" (.ref li) ∧ Fld Z h cu "com/example/nasute/nasute/sql/TokenCursor" "end" "Lcom/example/nasute/nasute/sql/Token;" (.ref en) ∧ Fld Z h cu "com/example/nasute/nasute/sql/TokenCursor" "at" "I" (.int (2 : Int32))
theorem ef_Nx21 (m : MethodId) (cu : Addr) : entryFrame m #[(.ref cu)] 2 = mkF m 0 #[.val (.ref cu), .unset] [] := by first | (simp [entryFrame, mkF, argsToLocals, Value.category]; done) | rfl | (rfl)
set_option maxRecDepth 65536 in
set_option maxHeartbeats 40000000 in
theorem rmNx21 (l : Launch) (Z : State) (a0 : Array Value) (hw : ∀ d ∈ tables_1, d.before a0 Z = true) (ws : List Jvm.Cond) (cu : Addr) (li : Addr) (en : Addr) (da : Addr) (kda : ClassId) (t0 : Addr) (t1 : Addr) (h0 : Heap) (n0 : Nat) (O : Old Z n0 h0) (E : Exa Z h0 cu "com/example/nasute/nasute/sql/TokenCursorIsTextEndPinLaw") (G0 : Fld Z h0 cu "com/example/nasute/nasute/sql/TokenCursor" "tokens" "Ljava/util/List;" (.ref li)) (G1 : Fld Z h0 cu "com/example/nasute/nasute/sql/TokenCursor" "end" "Lcom/example/nasute/nasute/sql/Token;" (.ref en)) (G2 : Fld Z h0 cu "com/example/nasute/nasute/sql/TokenCursor" "at" "I" (.int (1 : Int32))) (El : Exa Z h0 li "java/util/ArrayList") (F3 : Fld Z h0 li "java/util/ArrayList" "size" "I" (.int (2 : Int32))) (F2 : Fld Z h0 li "java/util/ArrayList" "elementData" "[Ljava/lang/Object;" (.ref da)) (V1 : Arv Z h0 da kda (.object "java/lang/Object") (10 : Int32) [(.ref t0), (.ref t1), .null, .null, .null, .null, .null, .null, .null, .null] .null) (E_t0 : Exa Z h0 t0 "com/example/nasute/nasute/sql/Token") (E_t1 : Exa Z h0 t1 "com/example/nasute/nasute/sql/Token") (ne_t0 : t0 ≠ en) (ne_t1 : t1 ≠ en) (ga : n0 ≤ cu) (nlc : li ≠ cu) (ndc : da ≠ cu) :
    MetFree l (⟨"com/example/nasute/nasute/sql/TokenCursor", "next", "()Lcom/example/nasute/nasute/sql/Token;"⟩ : MethodName) (head1 (Jvm.Cond.code (⟨"com/example/nasute/nasute/sql/TokenCursor", "next", "()Lcom/example/nasute/nasute/sql/Token;"⟩ : MethodName) prog_92_method_4_code 2 (some (.object "com/example/nasute/nasute/sql/Token")) :: ws) ({ frames := 5, cells := 0, slots := 0, locals := 66 } : Room)) (fun as_ U => as_ = #[(.ref cu)] ∧ Z.Warmed39 U.vm ∧ U.heap = h0) (fun _ _ _ _ _ => True) (fun _ U oo_ U' => ∃ vv_ LL_, oo_ = .returned vv_ ∧ QNx21 Z cu li en da kda t0 t1 h0 n0 vv_ U'.heap LL_ ∧ FrameEnd U oo_ U' LL_ ({ frames := 5, cells := 0, slots := 0, locals := 66 } : Room).cells ({ frames := 5, cells := 0, slots := 0, locals := 66 } : Room).slots) := by
  refine MetFree.of_bodySF (plainFor_of_name pn_10) hisR ?_
  intro p e s m args below meth c s₁ Bd hml0 hP hK
  obtain ⟨rfl, hZ, hh⟩ := hP
  have hx := Bd.exec
  have hby := Bd.bytes
  have hml : c.maxLocals = 2 := hml0
  have hown : s.vm.findClass "com/example/nasute/nasute/sql/TokenCursor" = some m.cls := findClass_of_methodNamed Bd.named
  have hnm := (name_of_methodNamed Bd.named Bd.method).1
  have X0 : Stand p l e ({ frames := 5, cells := 0, slots := 0, locals := 66 } : Room) s m #[(.ref cu)] below meth c s₁ [] 0 0 := Stand.of_body Bd
  have e0 : s₁.heap = h0 := by rw [← hh, Bd.state]; rfl
  have N := Fr.nil n0
  have K : Keep h0 h0 [cu] := Keep.refl h0 _
  refine own_go (B := s₁.setTop (mkF m 0 #[.val (.ref cu), .unset] [])) (fun t k => castTop (ef_Nx21 m cu) k) ?_
  refine own_abs (fun P hfin => ?_)
  refine own_go (B := s₁.setTop (mkF m 1 #[.val (.ref cu), .unset] [(.ref cu)])) (fun t k => ?_) ?_
  · show Steps p.tables e below (s₁.setTop (mkF m 0 #[.val (.ref cu), .unset] [])) _
    refine XS.aloadN X0.here hx rfl (hb hby d_prog_92_method_4_0) rfl rfl ?_
    show Steps p.tables e below (s₁.setTop (mkF m 1 #[.val (.ref cu), .unset] [(.ref cu)])) _
    exact k
  -- pc 1: com/example/nasute/nasute/sql/TokenCursor.peek
  obtain ⟨cq1, kq1, q1a, q1b, q1c⟩ := isOf hZ e0 E
  obtain ⟨_, _, ⟨T1, L1, k1, n1⟩, -, X1, ⟨Lc1, hQ1, l1, y1, z1⟩, st1⟩ := X0.virtualBack hx (y := (⟨"com/example/nasute/nasute/sql/TokenCursor", "peek", "()Lcom/example/nasute/nasute/sql/Token;"⟩ : MethodName)) (z := (⟨"com/example/nasute/nasute/sql/TokenCursor", "peek", "()Lcom/example/nasute/nasute/sql/Token;"⟩ : MethodName)) hown (mvT hZ (hw _ (own_g (i := 175) rfl))) (mvT hZ (hw _ (own_g (i := 176) rfl))) (notFace_of_selects (args := #[]) (mvT hZ (hw _ (own_g (i := 178) rfl)))) (mvT hZ (hw _ (own_g (i := 178) rfl))) (mvT hZ (hw _ (own_g (i := 177) rfl))) (by decide) (backOf (W := 0) (rmPz2 l Z a0 hw [] cu li en da kda t0 t1 (1 : Int32) h0 n0 O E G0 G1 G2 El F3 F2 V1 E_t0 E_t1 ne_t0 ne_t1) hZ (hw _ (own_g (i := 179) rfl)) (hw _ (own_g (i := 90) rfl)) (by decide) (by decide)) q1a q1c (g := (mkF m 1 #[.val (.ref cu), .unset] [(.ref cu)])) rfl (by rw [hml]; rfl) (Steps.refl _) (argsL := []) (rest := []) (lenOf pd_16 rfl) rfl (by show 2 * 0 + _ ≤ _; exact Nat.le_of_eq rfl) (hb hby d_prog_92_method_4_1) (fun _ hWm => ⟨rfl, e0, (by decide : 0 + 0 ≤ _), (by decide : 0 + 0 ≤ _)⟩)
  dsimp only [Pt.U, Pt.locs, Pt.cells, Pt.slots] at X1 l1 y1 z1 st1 hQ1
  subst l1 y1 z1
  obtain ⟨r1, rfl, Nq1, Kq1, cq1_0, cq1_1⟩ := hQ1
  replace N := Fr.app N Nq1
  refine own_go (B := T1.setTop (mkF m 4 #[.val (.ref cu), .unset] [(.ref r1)])) (fun t k => st1.trans k) ?_
  refine own_go (B := T1.setTop (mkF m 7 #[.val (.ref cu), .val (.ref r1)] [(.ref cu), (.ref r1)])) (fun t k => ?_) ?_
  · show Steps p.tables e below (T1.setTop (mkF m 4 #[.val (.ref cu), .unset] [(.ref r1)])) _
    refine XS.astoreN X1.here hx rfl (hb hby d_prog_92_method_4_4) rfl rfl (l' := #[.val (.ref cu), .val (.ref r1)]) rfl ?_
    show Steps p.tables e below (T1.setTop (mkF m 5 #[.val (.ref cu), .val (.ref r1)] [])) _
    refine XS.aloadN X1.here hx rfl (hb hby d_prog_92_method_4_5) rfl rfl ?_
    show Steps p.tables e below (T1.setTop (mkF m 6 #[.val (.ref cu), .val (.ref r1)] [(.ref r1)])) _
    refine XS.aloadN X1.here hx rfl (hb hby d_prog_92_method_4_6) rfl rfl ?_
    show Steps p.tables e below (T1.setTop (mkF m 7 #[.val (.ref cu), .val (.ref r1)] [(.ref cu), (.ref r1)])) _
    exact k
  obtain ⟨T2, X2, e2, st2⟩ := getF X1 hx hZ hown (host := "") (Or.inl (hw _ (own_g (i := 102) rfl))) Via.refl Kq1 G1 (g := (mkF m 7 #[.val (.ref cu), .val (.ref r1)] [(.ref cu), (.ref r1)])) rfl rfl (hb hby d_prog_92_method_4_7)
  refine own_go (B := T2.setTop (mkF m 10 #[.val (.ref cu), .val (.ref r1)] [(.ref en), (.ref r1)])) st2 ?_
  refine own_go (B := T2.setTop (mkF m 15 #[.val (.ref cu), .val (.ref r1)] [(.ref cu), (.ref cu)])) (fun t k => ?_) ?_
  · show Steps p.tables e below (T2.setTop (mkF m 10 #[.val (.ref cu), .val (.ref r1)] [(.ref en), (.ref r1)])) _
    refine Jvm.RoadKit.acmp (g := (mkF m 10 #[.val (.ref cu), .val (.ref r1)] [(.ref en), (.ref r1)])) X2 hx rfl rfl rfl (pc0 := 10) (pc' := 13) (same := false) rfl (hb hby d_prog_92_method_4_10) rfl (decide_eq_false fun q => (cq1_0 (by decide)) (Value.ref.inj q)) (by decide) (by decide) ?_
    show Steps p.tables e below (T2.setTop (mkF m 13 #[.val (.ref cu), .val (.ref r1)] [])) _
    refine XS.aloadN X2.here hx rfl (hb hby d_prog_92_method_4_13) rfl rfl ?_
    show Steps p.tables e below (T2.setTop (mkF m 14 #[.val (.ref cu), .val (.ref r1)] [(.ref cu)])) _
    refine XS.dup X2.here hx rfl (hb hby d_prog_92_method_4_14) rfl rfl ?_
    show Steps p.tables e below (T2.setTop (mkF m 15 #[.val (.ref cu), .val (.ref r1)] [(.ref cu), (.ref cu)])) _
    exact k
  obtain ⟨T3, X3, e3, st3⟩ := getF X2 hx hZ hown (host := "") (Or.inl (hw _ (own_g (i := 114) rfl))) Via.refl e2 G2 (g := (mkF m 15 #[.val (.ref cu), .val (.ref r1)] [(.ref cu), (.ref cu)])) rfl rfl (hb hby d_prog_92_method_4_15)
  refine own_go (B := T3.setTop (mkF m 18 #[.val (.ref cu), .val (.ref r1)] [(.int (1 : Int32)), (.ref cu)])) st3 ?_
  refine own_go (B := T3.setTop (mkF m 20 #[.val (.ref cu), .val (.ref r1)] [(.int ((1 : Int32) + (1 : Int32))), (.ref cu)])) (fun t k => ?_) ?_
  · show Steps p.tables e below (T3.setTop (mkF m 18 #[.val (.ref cu), .val (.ref r1)] [(.int (1 : Int32)), (.ref cu)])) _
    refine XS.iconst X3.here hx rfl (hb hby d_prog_92_method_4_18) ?_
    show Steps p.tables e below (T3.setTop (mkF m 19 #[.val (.ref cu), .val (.ref r1)] [(.int (1 : Int32)), (.int (1 : Int32)), (.ref cu)])) _
    refine XS.iadd X3.here hx rfl (hb hby d_prog_92_method_4_19) rfl ?_
    show Steps p.tables e below (T3.setTop (mkF m 20 #[.val (.ref cu), .val (.ref r1)] [(.int ((1 : Int32) + (1 : Int32))), (.ref cu)])) _
    exact k
  rw [(show ((1 : Int32) + (1 : Int32)) = (2 : Int32) from by decide)]
  obtain ⟨T4, h4, X4, e4, W4, st4⟩ := putF X3 hx hZ hown (host := "") (Or.inl (hw _ (own_g (i := 114) rfl))) Via.refl e3 G2 E (Or.inl (hw _ (own_g (i := 115) rfl))) (hw _ (own_g (i := 83) rfl)) (ty := .int) (by decide) rfl rfl (g := (mkF m 20 #[.val (.ref cu), .val (.ref r1)] [(.int (2 : Int32)), (.ref cu)])) rfl rfl (hb hby d_prog_92_method_4_20)
  have Fw4 := G2.same W4
  replace E := E.wr W4
  replace G0 := G0.other W4 (Or.inr (slot_ne (Or.inr (hw _ (own_g (i := 94) rfl))) (Or.inl (hw _ (own_g (i := 115) rfl))) (by decide) (t := (.object "java/util/List")) (t' := .int) (by decide) (by decide)))
  replace G1 := G1.other W4 (Or.inr (slot_ne (Or.inr (hw _ (own_g (i := 103) rfl))) (Or.inl (hw _ (own_g (i := 115) rfl))) (by decide) (t := (.object "com/example/nasute/nasute/sql/Token")) (t' := .int) (by decide) (by decide)))
  clear G2
  replace El := El.wr W4
  replace F3 := F3.other W4 (Or.inl nlc)
  replace F2 := F2.other W4 (Or.inl nlc)
  replace V1 := V1.other W4 ndc
  replace E_t0 := E_t0.wr W4
  replace E_t1 := E_t1.wr W4
  replace O := O.wr W4 ga
  replace K := K.wr W4 (Or.inl (own_g (i := 0) rfl))
  replace N := Fr.snoc X4 N ga
  refine own_go (B := T4.setTop (mkF m 23 #[.val (.ref cu), .val (.ref r1)] [])) st4 ?_
  refine own_go (B := T4.setTop (mkF m 24 #[.val (.ref cu), .val (.ref r1)] [(.ref r1)])) (fun t k => ?_) ?_
  · show Steps p.tables e below (T4.setTop (mkF m 23 #[.val (.ref cu), .val (.ref r1)] [])) _
    refine XS.aloadN X4.here hx rfl (hb hby d_prog_92_method_4_23) rfl rfl ?_
    show Steps p.tables e below (T4.setTop (mkF m 24 #[.val (.ref cu), .val (.ref r1)] [(.ref r1)])) _
    exact k
  obtain ⟨fs, hr, hrun, hended, hW, hsame⟩ := X4.leave (v := some (.ref r1)) (fun h => by rw [Bd.returns] at h; cases h)
  refine ⟨_, _, own_retA X4 hx rfl Bd.returns rfl (hb hby d_prog_92_method_4_24) hr, hfin _ _ ⟨hrun, hended, _, _, rfl, ?_, ⟨_, rfl⟩, hW, hsame.mono (by decide) (by decide)⟩⟩
  show QNx21 Z cu li en da kda t0 t1 h0 n0 _ T4.heap _
  rw [e4]
  exact ⟨r1, rfl, N, K, G0, G1, Fw4⟩
def QNx22 (Z : State) (cu : Addr) (li : Addr) (en : Addr) (da : Addr) (kda : ClassId) (t0 : Addr) (t1 : Addr) (h0 : Heap) (n0 : Nat) (v : Option Value) (h : Heap) (L : List Loc) : Prop := ∃ r : Addr, v = some (.ref r) ∧ Fr n0 L ∧ h = h0
theorem ef_Nx22 (m : MethodId) (cu : Addr) : entryFrame m #[(.ref cu)] 2 = mkF m 0 #[.val (.ref cu), .unset] [] := by first | (simp [entryFrame, mkF, argsToLocals, Value.category]; done) | rfl | (rfl)
set_option maxRecDepth 65536 in
set_option maxHeartbeats 40000000 in
theorem rmNx22 (l : Launch) (Z : State) (a0 : Array Value) (hw : ∀ d ∈ tables_1, d.before a0 Z = true) (ws : List Jvm.Cond) (cu : Addr) (li : Addr) (en : Addr) (da : Addr) (kda : ClassId) (t0 : Addr) (t1 : Addr) (h0 : Heap) (n0 : Nat) (O : Old Z n0 h0) (E : Exa Z h0 cu "com/example/nasute/nasute/sql/TokenCursorIsTextEndPinLaw") (G0 : Fld Z h0 cu "com/example/nasute/nasute/sql/TokenCursor" "tokens" "Ljava/util/List;" (.ref li)) (G1 : Fld Z h0 cu "com/example/nasute/nasute/sql/TokenCursor" "end" "Lcom/example/nasute/nasute/sql/Token;" (.ref en)) (G2 : Fld Z h0 cu "com/example/nasute/nasute/sql/TokenCursor" "at" "I" (.int (2 : Int32))) (El : Exa Z h0 li "java/util/ArrayList") (F3 : Fld Z h0 li "java/util/ArrayList" "size" "I" (.int (2 : Int32))) (F2 : Fld Z h0 li "java/util/ArrayList" "elementData" "[Ljava/lang/Object;" (.ref da)) (V1 : Arv Z h0 da kda (.object "java/lang/Object") (10 : Int32) [(.ref t0), (.ref t1), .null, .null, .null, .null, .null, .null, .null, .null] .null) (E_t0 : Exa Z h0 t0 "com/example/nasute/nasute/sql/Token") (E_t1 : Exa Z h0 t1 "com/example/nasute/nasute/sql/Token") (ne_t0 : t0 ≠ en) (ne_t1 : t1 ≠ en) (ga : n0 ≤ cu) (nlc : li ≠ cu) (ndc : da ≠ cu) :
    MetFree l (⟨"com/example/nasute/nasute/sql/TokenCursor", "next", "()Lcom/example/nasute/nasute/sql/Token;"⟩ : MethodName) (head1 (Jvm.Cond.code (⟨"com/example/nasute/nasute/sql/TokenCursor", "next", "()Lcom/example/nasute/nasute/sql/Token;"⟩ : MethodName) prog_92_method_4_code 2 (some (.object "com/example/nasute/nasute/sql/Token")) :: ws) ({ frames := 5, cells := 0, slots := 0, locals := 66 } : Room)) (fun as_ U => as_ = #[(.ref cu)] ∧ Z.Warmed39 U.vm ∧ U.heap = h0) (fun _ _ _ _ _ => True) (fun _ U oo_ U' => ∃ vv_ LL_, oo_ = .returned vv_ ∧ QNx22 Z cu li en da kda t0 t1 h0 n0 vv_ U'.heap LL_ ∧ FrameEnd U oo_ U' LL_ ({ frames := 5, cells := 0, slots := 0, locals := 66 } : Room).cells ({ frames := 5, cells := 0, slots := 0, locals := 66 } : Room).slots) := by
  refine MetFree.of_bodySF (plainFor_of_name pn_10) hisR ?_
  intro p e s m args below meth c s₁ Bd hml0 hP hK
  obtain ⟨rfl, hZ, hh⟩ := hP
  have hx := Bd.exec
  have hby := Bd.bytes
  have hml : c.maxLocals = 2 := hml0
  have hown : s.vm.findClass "com/example/nasute/nasute/sql/TokenCursor" = some m.cls := findClass_of_methodNamed Bd.named
  have hnm := (name_of_methodNamed Bd.named Bd.method).1
  have X0 : Stand p l e ({ frames := 5, cells := 0, slots := 0, locals := 66 } : Room) s m #[(.ref cu)] below meth c s₁ [] 0 0 := Stand.of_body Bd
  have e0 : s₁.heap = h0 := by rw [← hh, Bd.state]; rfl
  have N := Fr.nil n0
  have K : Keep h0 h0 [] := Keep.refl h0 _
  refine own_go (B := s₁.setTop (mkF m 0 #[.val (.ref cu), .unset] [])) (fun t k => castTop (ef_Nx22 m cu) k) ?_
  refine own_abs (fun P hfin => ?_)
  refine own_go (B := s₁.setTop (mkF m 1 #[.val (.ref cu), .unset] [(.ref cu)])) (fun t k => ?_) ?_
  · show Steps p.tables e below (s₁.setTop (mkF m 0 #[.val (.ref cu), .unset] [])) _
    refine XS.aloadN X0.here hx rfl (hb hby d_prog_92_method_4_0) rfl rfl ?_
    show Steps p.tables e below (s₁.setTop (mkF m 1 #[.val (.ref cu), .unset] [(.ref cu)])) _
    exact k
  -- pc 1: com/example/nasute/nasute/sql/TokenCursor.peek
  obtain ⟨cq1, kq1, q1a, q1b, q1c⟩ := isOf hZ e0 E
  obtain ⟨_, _, ⟨T1, L1, k1, n1⟩, -, X1, ⟨Lc1, hQ1, l1, y1, z1⟩, st1⟩ := X0.virtualBack hx (y := (⟨"com/example/nasute/nasute/sql/TokenCursor", "peek", "()Lcom/example/nasute/nasute/sql/Token;"⟩ : MethodName)) (z := (⟨"com/example/nasute/nasute/sql/TokenCursor", "peek", "()Lcom/example/nasute/nasute/sql/Token;"⟩ : MethodName)) hown (mvT hZ (hw _ (own_g (i := 175) rfl))) (mvT hZ (hw _ (own_g (i := 176) rfl))) (notFace_of_selects (args := #[]) (mvT hZ (hw _ (own_g (i := 178) rfl)))) (mvT hZ (hw _ (own_g (i := 178) rfl))) (mvT hZ (hw _ (own_g (i := 177) rfl))) (by decide) (backOf (W := 0) (rmPz2 l Z a0 hw [] cu li en da kda t0 t1 (2 : Int32) h0 n0 O E G0 G1 G2 El F3 F2 V1 E_t0 E_t1 ne_t0 ne_t1) hZ (hw _ (own_g (i := 179) rfl)) (hw _ (own_g (i := 90) rfl)) (by decide) (by decide)) q1a q1c (g := (mkF m 1 #[.val (.ref cu), .unset] [(.ref cu)])) rfl (by rw [hml]; rfl) (Steps.refl _) (argsL := []) (rest := []) (lenOf pd_16 rfl) rfl (by show 2 * 0 + _ ≤ _; exact Nat.le_of_eq rfl) (hb hby d_prog_92_method_4_1) (fun _ hWm => ⟨rfl, e0, (by decide : 0 + 0 ≤ _), (by decide : 0 + 0 ≤ _)⟩)
  dsimp only [Pt.U, Pt.locs, Pt.cells, Pt.slots] at X1 l1 y1 z1 st1 hQ1
  subst l1 y1 z1
  obtain ⟨r1, rfl, Nq1, Kq1, cq1_0, cq1_1⟩ := hQ1
  replace N := Fr.app N Nq1
  refine own_go (B := T1.setTop (mkF m 4 #[.val (.ref cu), .unset] [(.ref r1)])) (fun t k => st1.trans k) ?_
  refine own_go (B := T1.setTop (mkF m 7 #[.val (.ref cu), .val (.ref r1)] [(.ref cu), (.ref r1)])) (fun t k => ?_) ?_
  · show Steps p.tables e below (T1.setTop (mkF m 4 #[.val (.ref cu), .unset] [(.ref r1)])) _
    refine XS.astoreN X1.here hx rfl (hb hby d_prog_92_method_4_4) rfl rfl (l' := #[.val (.ref cu), .val (.ref r1)]) rfl ?_
    show Steps p.tables e below (T1.setTop (mkF m 5 #[.val (.ref cu), .val (.ref r1)] [])) _
    refine XS.aloadN X1.here hx rfl (hb hby d_prog_92_method_4_5) rfl rfl ?_
    show Steps p.tables e below (T1.setTop (mkF m 6 #[.val (.ref cu), .val (.ref r1)] [(.ref r1)])) _
    refine XS.aloadN X1.here hx rfl (hb hby d_prog_92_method_4_6) rfl rfl ?_
    show Steps p.tables e below (T1.setTop (mkF m 7 #[.val (.ref cu), .val (.ref r1)] [(.ref cu), (.ref r1)])) _
    exact k
  obtain ⟨T2, X2, e2, st2⟩ := getF X1 hx hZ hown (host := "") (Or.inl (hw _ (own_g (i := 102) rfl))) Via.refl Kq1 G1 (g := (mkF m 7 #[.val (.ref cu), .val (.ref r1)] [(.ref cu), (.ref r1)])) rfl rfl (hb hby d_prog_92_method_4_7)
  refine own_go (B := T2.setTop (mkF m 10 #[.val (.ref cu), .val (.ref r1)] [(.ref en), (.ref r1)])) st2 ?_
  refine own_go (B := T2.setTop (mkF m 24 #[.val (.ref cu), .val (.ref r1)] [(.ref r1)])) (fun t k => ?_) ?_
  · show Steps p.tables e below (T2.setTop (mkF m 10 #[.val (.ref cu), .val (.ref r1)] [(.ref en), (.ref r1)])) _
    refine Jvm.RoadKit.acmp (g := (mkF m 10 #[.val (.ref cu), .val (.ref r1)] [(.ref en), (.ref r1)])) X2 hx rfl rfl rfl (pc0 := 10) (pc' := 23) (same := true) rfl (hb hby d_prog_92_method_4_10) rfl (decide_eq_true (congrArg Value.ref (cq1_1 (by decide)))) (by decide) (by decide) ?_
    show Steps p.tables e below (T2.setTop (mkF m 23 #[.val (.ref cu), .val (.ref r1)] [])) _
    refine XS.aloadN X2.here hx rfl (hb hby d_prog_92_method_4_23) rfl rfl ?_
    show Steps p.tables e below (T2.setTop (mkF m 24 #[.val (.ref cu), .val (.ref r1)] [(.ref r1)])) _
    exact k
  obtain ⟨fs, hr, hrun, hended, hW, hsame⟩ := X2.leave (v := some (.ref r1)) (fun h => by rw [Bd.returns] at h; cases h)
  refine ⟨_, _, own_retA X2 hx rfl Bd.returns rfl (hb hby d_prog_92_method_4_24) hr, hfin _ _ ⟨hrun, hended, _, _, rfl, ?_, ⟨_, rfl⟩, hW, hsame.mono (by decide) (by decide)⟩⟩
  show QNx22 Z cu li en da kda t0 t1 h0 n0 _ T2.heap _
  exact ⟨r1, rfl, N, e2⟩
def Q0 (Z : State) (p1 : Int32) (p2 : Int32) (p3 : Int32) (p4 : Int32) (p5 : Int32) (p6 : Int32) (w0 : Addr) (w1 : Addr) (w2 : Addr) (w3 : Addr) (w4 : Addr) (w5 : Addr) (zc : Int32) (dz : Addr) (kz : ClassId) (h0 : Heap) (n0 : Nat) (v : Option Value) (h : Heap) (L : List Loc) : Prop := v = some (.int 1) ∧ Fr n0 L
theorem ef_0 (m : MethodId) (p1 : Int32) (p2 : Int32) (p3 : Int32) (p4 : Int32) (p5 : Int32) (p6 : Int32) : entryFrame m #[(.int p1), (.int p2), (.int p3), (.int p4), (.int p5), (.int p6)] maxLocals = mkF m 0 #[.val (.int p1), .val (.int p2), .val (.int p3), .val (.int p4), .val (.int p5), .val (.int p6), .unset, .unset, .unset, .unset, .unset, .unset, .unset, .unset, .unset, .unset, .unset, .unset, .unset, .unset] [] := by first | (simp [entryFrame, mkF, argsToLocals, Value.category, maxLocals]; done) | rfl | (rfl)
set_option maxRecDepth 65536 in
set_option maxHeartbeats 40000000 in
theorem rm0 (l : Launch) (Z : State) (a0 : Array Value) (hw : ∀ d ∈ tables_1, d.before a0 Z = true) (ws : List Jvm.Cond) (p1 : Int32) (p2 : Int32) (p3 : Int32) (p4 : Int32) (p5 : Int32) (p6 : Int32) (w0 : Addr) (w1 : Addr) (w2 : Addr) (w3 : Addr) (w4 : Addr) (w5 : Addr) (zc : Int32) (dz : Addr) (kz : ClassId) (h0 : Heap) (n0 : Nat) (O : Old Z n0 h0) (S_0 : Sta Z Z.heap "com/example/nasute/nasute/sql/Token$Type" "WORD" "Lcom/example/nasute/nasute/sql/Token$Type;" (.ref w0)) (S_1 : Sta Z Z.heap "com/example/nasute/nasute/sql/Token$Type" "QUOTED_NAME" "Lcom/example/nasute/nasute/sql/Token$Type;" (.ref w1)) (S_2 : Sta Z Z.heap "com/example/nasute/nasute/sql/Token$Type" "STRING" "Lcom/example/nasute/nasute/sql/Token$Type;" (.ref w2)) (S_3 : Sta Z Z.heap "com/example/nasute/nasute/sql/Token$Type" "NUMBER" "Lcom/example/nasute/nasute/sql/Token$Type;" (.ref w3)) (S_4 : Sta Z Z.heap "com/example/nasute/nasute/sql/Token$Type" "VARIABLE" "Lcom/example/nasute/nasute/sql/Token$Type;" (.ref w4)) (S_5 : Sta Z Z.heap "com/example/nasute/nasute/sql/Token$Type" "SYMBOL" "Lcom/example/nasute/nasute/sql/Token$Type;" (.ref w5)) (S_C : Sta Z Z.heap "java/lang/String" "COMPACT_STRINGS" "Z" (.int zc)) (S_D : Sta Z Z.heap "java/util/ArrayList" "DEFAULTCAPACITY_EMPTY_ELEMENTDATA" "[Ljava/lang/Object;" (.ref dz)) (V_Z : Arv Z Z.heap dz kz (.object "java/lang/Object") (0 : Int32) [] .null) (hcs : ¬ zc = (0 : Int32)) :
    MetFree l x (head1 (Jvm.Cond.code x code maxLocals ret :: ws) room_1) (fun as_ U => as_ = #[(.int p1), (.int p2), (.int p3), (.int p4), (.int p5), (.int p6)] ∧ Z.Warmed39 U.vm ∧ U.heap = h0) (fun _ _ _ _ _ => True) (fun _ U oo_ U' => ∃ vv_ LL_, oo_ = .returned vv_ ∧ Q0 Z p1 p2 p3 p4 p5 p6 w0 w1 w2 w3 w4 w5 zc dz kz h0 n0 vv_ U'.heap LL_ ∧ ReturnedEndW U oo_ U' LL_ room_1.cells room_1.slots) := by
  refine MetFree.of_bodySF (plainFor_of_name pn_4) hisR ?_
  intro p e s m args below meth c s₁ Bd hml0 hP hK
  obtain ⟨rfl, hZ, hh⟩ := hP
  have hx := Bd.exec
  have hby := Bd.bytes
  have hml : c.maxLocals = 20 := hml0
  have hown : s.vm.findClass "com/example/nasute/nasute/sql/TokenCursorIsTextEndPinLaw" = some m.cls := findClass_of_methodNamed Bd.named
  have hnm := (name_of_methodNamed Bd.named Bd.method).1
  have X0 : Stand p l e room_1 (s.setVm s.vm) m #[(.int p1), (.int p2), (.int p3), (.int p4), (.int p5), (.int p6)] below meth c s₁ [] 0 0 := Stand.of_body Bd
  have e0 : s₁.heap = h0 := by rw [← hh, Bd.state]; rfl
  have N := Fr.nil n0
  have hown : (s.setVm s.vm).vm.findClass "com/example/nasute/nasute/sql/TokenCursorIsTextEndPinLaw" = some m.cls := hown
  have hZ : Z.Warmed39 (s.setVm s.vm).vm := hZ
  have hS : s.Since s.vm h0.size := (State.WarmedH.refl s).since _
  have hk : h0.size ≤ h0.size := Nat.le_refl _
  refine own_go (B := s₁.setTop (mkF m 0 #[.val (.int p1), .val (.int p2), .val (.int p3), .val (.int p4), .val (.int p5), .val (.int p6), .unset, .unset, .unset, .unset, .unset, .unset, .unset, .unset, .unset, .unset, .unset, .unset, .unset, .unset] [])) (fun t k => castTop (ef_0 m p1 p2 p3 p4 p5 p6) k) ?_
  refine own_abs (fun P hfin => ?_)
  refine own_go (B := s₁.setTop (mkF m 3 #[.val (.int p1), .val (.int p2), .val (.int p3), .val (.int p4), .val (.int p5), .val (.int p6), .unset, .unset, .unset, .unset, .unset, .unset, .unset, .unset, .unset, .unset, .unset, .unset, .unset, .unset] [(.int p6), (.int p4)])) (fun t k => ?_) ?_
  · show Steps p.tables e below (s₁.setTop (mkF m 0 #[.val (.int p1), .val (.int p2), .val (.int p3), .val (.int p4), .val (.int p5), .val (.int p6), .unset, .unset, .unset, .unset, .unset, .unset, .unset, .unset, .unset, .unset, .unset, .unset, .unset, .unset] [])) _
    refine XS.iloadN X0.here hx rfl (hb hby at_0) rfl ?_
    show Steps p.tables e below (s₁.setTop (mkF m 1 #[.val (.int p1), .val (.int p2), .val (.int p3), .val (.int p4), .val (.int p5), .val (.int p6), .unset, .unset, .unset, .unset, .unset, .unset, .unset, .unset, .unset, .unset, .unset, .unset, .unset, .unset] [(.int p4)])) _
    refine XS.iload X0.here hx rfl (hb hby at_1) rfl ?_
    show Steps p.tables e below (s₁.setTop (mkF m 3 #[.val (.int p1), .val (.int p2), .val (.int p3), .val (.int p4), .val (.int p5), .val (.int p6), .unset, .unset, .unset, .unset, .unset, .unset, .unset, .unset, .unset, .unset, .unset, .unset, .unset, .unset] [(.int p6), (.int p4)])) _
    exact k
  -- pc 3: com/example/nasute/nasute/sql/TokenCursorIsTextEndPinLaw.token
  obtain ⟨_, _, ⟨T1, L1, k1, n1⟩, -, X1, hSq1, hgq1, ⟨Lc1, hQ1, l1, y1, z1⟩, st1⟩ := callSS X0 hx (y := (⟨"com/example/nasute/nasute/sql/TokenCursorIsTextEndPinLaw", "token", "(II)Lcom/example/nasute/nasute/sql/Token;"⟩ : MethodName)) hown (mvT hZ (hw _ (own_g (i := 0) rfl))) (mvT hZ (hw _ (own_g (i := 1) rfl))) (mvT hZ (hw _ (own_g (i := 2) rfl))) (mvT hZ (hw _ (own_g (i := 3) rfl))) (by decide) (backOfS (W := 0) (rmTok l Z a0 hw [] p4 p6 w0 w1 w2 w3 w4 w5 zc h0 n0 O S_0 S_1 S_2 S_3 S_4 S_5 S_C hcs) hZ (hw _ (own_g (i := 3) rfl)) (hw _ (own_g (i := 2) rfl)) (by decide) (by decide)) (g := (mkF m 3 #[.val (.int p1), .val (.int p2), .val (.int p3), .val (.int p4), .val (.int p5), .val (.int p6), .unset, .unset, .unset, .unset, .unset, .unset, .unset, .unset, .unset, .unset, .unset, .unset, .unset, .unset] [(.int p6), (.int p4)])) rfl (by rw [hml]; rfl) (argsL := [(.int p4), (.int p6)]) (rest := []) (lenOf pd_17 rfl) rfl (by show 2 * 0 + _ ≤ _; exact Nat.le_of_eq rfl) (hb hby at_3) (fun _ hWm => ⟨rfl, e0, (by decide : 0 + 3 ≤ _), (by decide : 0 + 9 ≤ _)⟩)
  dsimp only [Pt.U, Pt.locs, Pt.cells, Pt.slots] at X1 l1 y1 z1 st1 hQ1 hSq1 hgq1
  subst l1 y1 z1
  obtain ⟨X1, hS, hZ, hown⟩ := rebS hS (by rw [e0]; exact hk) X1 hSq1 hgq1 hZ hown
  obtain ⟨r1, rfl, Nq1, Kq1, fq1_r, Gq1_0⟩ := hQ1
  replace N := Fr.app N Nq1
  have g_r1 : n0 ≤ r1 := Nat.le_trans (own_oldsz O) fq1_r
  replace O := O.keep Kq1 all0
  have hk : T1.heap.size ≤ T1.heap.size := Nat.le_refl _
  refine own_go (B := T1.setTop (mkF m 6 #[.val (.int p1), .val (.int p2), .val (.int p3), .val (.int p4), .val (.int p5), .val (.int p6), .unset, .unset, .unset, .unset, .unset, .unset, .unset, .unset, .unset, .unset, .unset, .unset, .unset, .unset] [(.ref r1)])) (fun t k => st1.trans k) ?_
  refine own_go (B := T1.setTop (mkF m 14 #[.val (.int p1), .val (.int p2), .val (.int p3), .val (.int p4), .val (.int p5), .val (.int p6), .val (.ref r1), .unset, .unset, .unset, .unset, .unset, .unset, .unset, .unset, .unset, .unset, .unset, .unset, .unset] [(.int ((p6.toUInt32 >>> ((3 : Int32) &&& 31).toUInt32).toInt32)), (.int p5)])) (fun t k => ?_) ?_
  · show Steps p.tables e below (T1.setTop (mkF m 6 #[.val (.int p1), .val (.int p2), .val (.int p3), .val (.int p4), .val (.int p5), .val (.int p6), .unset, .unset, .unset, .unset, .unset, .unset, .unset, .unset, .unset, .unset, .unset, .unset, .unset, .unset] [(.ref r1)])) _
    refine XS.astore X1.here hx rfl (hb hby at_6) rfl rfl (l' := #[.val (.int p1), .val (.int p2), .val (.int p3), .val (.int p4), .val (.int p5), .val (.int p6), .val (.ref r1), .unset, .unset, .unset, .unset, .unset, .unset, .unset, .unset, .unset, .unset, .unset, .unset, .unset]) rfl ?_
    show Steps p.tables e below (T1.setTop (mkF m 8 #[.val (.int p1), .val (.int p2), .val (.int p3), .val (.int p4), .val (.int p5), .val (.int p6), .val (.ref r1), .unset, .unset, .unset, .unset, .unset, .unset, .unset, .unset, .unset, .unset, .unset, .unset, .unset] [])) _
    refine XS.iload X1.here hx rfl (hb hby at_8) rfl ?_
    show Steps p.tables e below (T1.setTop (mkF m 10 #[.val (.int p1), .val (.int p2), .val (.int p3), .val (.int p4), .val (.int p5), .val (.int p6), .val (.ref r1), .unset, .unset, .unset, .unset, .unset, .unset, .unset, .unset, .unset, .unset, .unset, .unset, .unset] [(.int p5)])) _
    refine XS.iload X1.here hx rfl (hb hby at_10) rfl ?_
    show Steps p.tables e below (T1.setTop (mkF m 12 #[.val (.int p1), .val (.int p2), .val (.int p3), .val (.int p4), .val (.int p5), .val (.int p6), .val (.ref r1), .unset, .unset, .unset, .unset, .unset, .unset, .unset, .unset, .unset, .unset, .unset, .unset, .unset] [(.int p6), (.int p5)])) _
    refine XS.iconst X1.here hx rfl (hb hby at_12) ?_
    show Steps p.tables e below (T1.setTop (mkF m 13 #[.val (.int p1), .val (.int p2), .val (.int p3), .val (.int p4), .val (.int p5), .val (.int p6), .val (.ref r1), .unset, .unset, .unset, .unset, .unset, .unset, .unset, .unset, .unset, .unset, .unset, .unset, .unset] [(.int (3 : Int32)), (.int p6), (.int p5)])) _
    refine XS.iushr X1.here hx rfl (hb hby at_13) rfl ?_
    show Steps p.tables e below (T1.setTop (mkF m 14 #[.val (.int p1), .val (.int p2), .val (.int p3), .val (.int p4), .val (.int p5), .val (.int p6), .val (.ref r1), .unset, .unset, .unset, .unset, .unset, .unset, .unset, .unset, .unset, .unset, .unset, .unset, .unset] [(.int ((p6.toUInt32 >>> ((3 : Int32) &&& 31).toUInt32).toInt32)), (.int p5)])) _
    exact k
  -- pc 14: com/example/nasute/nasute/sql/TokenCursorIsTextEndPinLaw.token
  obtain ⟨_, _, ⟨T2, L2, k2, n2⟩, -, X2, hSq2, hgq2, ⟨Lc2, hQ2, l2, y2, z2⟩, st2⟩ := callSS X1 hx (y := (⟨"com/example/nasute/nasute/sql/TokenCursorIsTextEndPinLaw", "token", "(II)Lcom/example/nasute/nasute/sql/Token;"⟩ : MethodName)) hown (mvT hZ (hw _ (own_g (i := 0) rfl))) (mvT hZ (hw _ (own_g (i := 1) rfl))) (mvT hZ (hw _ (own_g (i := 2) rfl))) (mvT hZ (hw _ (own_g (i := 3) rfl))) (by decide) (backOfS (W := 0) (rmTok l Z a0 hw [] p5 ((p6.toUInt32 >>> ((3 : Int32) &&& 31).toUInt32).toInt32) w0 w1 w2 w3 w4 w5 zc T1.heap n0 O S_0 S_1 S_2 S_3 S_4 S_5 S_C hcs) hZ (hw _ (own_g (i := 3) rfl)) (hw _ (own_g (i := 2) rfl)) (by decide) (by decide)) (g := (mkF m 14 #[.val (.int p1), .val (.int p2), .val (.int p3), .val (.int p4), .val (.int p5), .val (.int p6), .val (.ref r1), .unset, .unset, .unset, .unset, .unset, .unset, .unset, .unset, .unset, .unset, .unset, .unset, .unset] [(.int ((p6.toUInt32 >>> ((3 : Int32) &&& 31).toUInt32).toInt32)), (.int p5)])) rfl (by rw [hml]; rfl) (argsL := [(.int p5), (.int ((p6.toUInt32 >>> ((3 : Int32) &&& 31).toUInt32).toInt32))]) (rest := []) (lenOf pd_17 rfl) rfl (by show 2 * 0 + _ ≤ _; exact Nat.le_of_eq rfl) (hb hby at_14) (fun _ hWm => ⟨rfl, rfl, (by decide : 3 + 3 ≤ _), (by decide : 9 + 9 ≤ _)⟩)
  dsimp only [Pt.U, Pt.locs, Pt.cells, Pt.slots] at X2 l2 y2 z2 st2 hQ2 hSq2 hgq2
  subst l2 y2 z2
  obtain ⟨X2, hS, hZ, hown⟩ := rebS hS hk X2 hSq2 hgq2 hZ hown
  obtain ⟨r2, rfl, Nq2, Kq2, fq2_r, Gq2_0⟩ := hQ2
  replace N := Fr.app N Nq2
  have lt_r1_r2 : r1 < r2 := Nat.lt_of_lt_of_le Gq1_0.lt fq2_r
  have g_r2 : n0 ≤ r2 := Nat.le_trans (own_oldsz O) fq2_r
  replace Gq1_0 := Gq1_0.keep Kq2
  replace O := O.keep Kq2 all0
  have hk : T2.heap.size ≤ T2.heap.size := Nat.le_refl _
  refine own_go (B := T2.setTop (mkF m 17 #[.val (.int p1), .val (.int p2), .val (.int p3), .val (.int p4), .val (.int p5), .val (.int p6), .val (.ref r1), .unset, .unset, .unset, .unset, .unset, .unset, .unset, .unset, .unset, .unset, .unset, .unset, .unset] [(.ref r2)])) (fun t k => st2.trans k) ?_
  refine own_go (B := T2.setTop (mkF m 26 #[.val (.int p1), .val (.int p2), .val (.int p3), .val (.int p4), .val (.int p5), .val (.int p6), .val (.ref r1), .val (.ref r2), .val (.int ((p1 &&& (3 : Int32)) % (3 : Int32))), .unset, .unset, .unset, .unset, .unset, .unset, .unset, .unset, .unset, .unset, .unset] [])) (fun t k => ?_) ?_
  · show Steps p.tables e below (T2.setTop (mkF m 17 #[.val (.int p1), .val (.int p2), .val (.int p3), .val (.int p4), .val (.int p5), .val (.int p6), .val (.ref r1), .unset, .unset, .unset, .unset, .unset, .unset, .unset, .unset, .unset, .unset, .unset, .unset, .unset] [(.ref r2)])) _
    refine XS.astore X2.here hx rfl (hb hby at_17) rfl rfl (l' := #[.val (.int p1), .val (.int p2), .val (.int p3), .val (.int p4), .val (.int p5), .val (.int p6), .val (.ref r1), .val (.ref r2), .unset, .unset, .unset, .unset, .unset, .unset, .unset, .unset, .unset, .unset, .unset, .unset]) rfl ?_
    show Steps p.tables e below (T2.setTop (mkF m 19 #[.val (.int p1), .val (.int p2), .val (.int p3), .val (.int p4), .val (.int p5), .val (.int p6), .val (.ref r1), .val (.ref r2), .unset, .unset, .unset, .unset, .unset, .unset, .unset, .unset, .unset, .unset, .unset, .unset] [])) _
    refine XS.iloadN X2.here hx rfl (hb hby at_19) rfl ?_
    show Steps p.tables e below (T2.setTop (mkF m 20 #[.val (.int p1), .val (.int p2), .val (.int p3), .val (.int p4), .val (.int p5), .val (.int p6), .val (.ref r1), .val (.ref r2), .unset, .unset, .unset, .unset, .unset, .unset, .unset, .unset, .unset, .unset, .unset, .unset] [(.int p1)])) _
    refine XS.iconst X2.here hx rfl (hb hby at_20) ?_
    show Steps p.tables e below (T2.setTop (mkF m 21 #[.val (.int p1), .val (.int p2), .val (.int p3), .val (.int p4), .val (.int p5), .val (.int p6), .val (.ref r1), .val (.ref r2), .unset, .unset, .unset, .unset, .unset, .unset, .unset, .unset, .unset, .unset, .unset, .unset] [(.int (3 : Int32)), (.int p1)])) _
    refine XS.iand X2.here hx rfl (hb hby at_21) rfl ?_
    show Steps p.tables e below (T2.setTop (mkF m 22 #[.val (.int p1), .val (.int p2), .val (.int p3), .val (.int p4), .val (.int p5), .val (.int p6), .val (.ref r1), .val (.ref r2), .unset, .unset, .unset, .unset, .unset, .unset, .unset, .unset, .unset, .unset, .unset, .unset] [(.int (p1 &&& (3 : Int32)))])) _
    refine XS.iconst X2.here hx rfl (hb hby at_22) ?_
    show Steps p.tables e below (T2.setTop (mkF m 23 #[.val (.int p1), .val (.int p2), .val (.int p3), .val (.int p4), .val (.int p5), .val (.int p6), .val (.ref r1), .val (.ref r2), .unset, .unset, .unset, .unset, .unset, .unset, .unset, .unset, .unset, .unset, .unset, .unset] [(.int (3 : Int32)), (.int (p1 &&& (3 : Int32)))])) _
    refine Jvm.RoadKit.iremM (g := (mkF m 23 #[.val (.int p1), .val (.int p2), .val (.int p3), .val (.int p4), .val (.int p5), .val (.int p6), .val (.ref r1), .val (.ref r2), .unset, .unset, .unset, .unset, .unset, .unset, .unset, .unset, .unset, .unset, .unset, .unset] [(.int (3 : Int32)), (.int (p1 &&& (3 : Int32)))])) X2 hx rfl (hb hby at_23) rfl (by decide) ?_
    show Steps p.tables e below (T2.setTop (mkF m 24 #[.val (.int p1), .val (.int p2), .val (.int p3), .val (.int p4), .val (.int p5), .val (.int p6), .val (.ref r1), .val (.ref r2), .unset, .unset, .unset, .unset, .unset, .unset, .unset, .unset, .unset, .unset, .unset, .unset] [(.int ((p1 &&& (3 : Int32)) % (3 : Int32)))])) _
    refine XS.istore X2.here hx rfl (hb hby at_24) rfl (l' := #[.val (.int p1), .val (.int p2), .val (.int p3), .val (.int p4), .val (.int p5), .val (.int p6), .val (.ref r1), .val (.ref r2), .val (.int ((p1 &&& (3 : Int32)) % (3 : Int32))), .unset, .unset, .unset, .unset, .unset, .unset, .unset, .unset, .unset, .unset, .unset]) rfl ?_
    show Steps p.tables e below (T2.setTop (mkF m 26 #[.val (.int p1), .val (.int p2), .val (.int p3), .val (.int p4), .val (.int p5), .val (.int p6), .val (.ref r1), .val (.ref r2), .val (.int ((p1 &&& (3 : Int32)) % (3 : Int32))), .unset, .unset, .unset, .unset, .unset, .unset, .unset, .unset, .unset, .unset, .unset] [])) _
    exact k
  obtain ⟨nk, hnk⟩ : ∃ z : Int32, z = ((p1 &&& (3 : Int32)) % (3 : Int32)) := ⟨_, rfl⟩
  rw [← hnk]
  have bnk : nk = (0 : Int32) ∨ nk = (1 : Int32) ∨ nk = (2 : Int32) := by rw [hnk]; exact own_len3 _
  by_cases kz_ : nk = (0 : Int32)
  · obtain ⟨T3, h3, X3, e3, E3, A3, D3, -, st3⟩ := newO X2 hx hZ hown (hw _ (own_g (i := 58) rfl)) (hw _ (own_g (i := 59) rfl)) (hw _ (own_g (i := 60) rfl)) rfl (g := (mkF m 26 #[.val (.int p1), .val (.int p2), .val (.int p3), .val (.int p4), .val (.int p5), .val (.int p6), .val (.ref r1), .val (.ref r2), .val (.int nk), .unset, .unset, .unset, .unset, .unset, .unset, .unset, .unset, .unset, .unset, .unset] [])) rfl (hb hby at_26) (by decide) (by decide)
    obtain ⟨b3, g3⟩ : ∃ z, z = T2.heap.size := ⟨_, rfl⟩
    rw [← g3] at A3 D3 st3
    have lt_r1_b3 : r1 < b3 := Nat.lt_of_lt_of_le Gq1_0.lt (Nat.le_of_eq g3.symm)
    have lt_r2_b3 : r2 < b3 := Nat.lt_of_lt_of_le Gq2_0.lt (Nat.le_of_eq g3.symm)
    have g_b3 : n0 ≤ b3 := Nat.le_trans (own_oldsz O) (Nat.le_of_eq g3.symm)
    replace Gq1_0 := Gq1_0.ext E3
    replace Gq2_0 := Gq2_0.ext E3
    replace O := O.ext E3
    replace hk := Nat.le_trans hk E3.1
    have F3_modCount : Fld Z h3 b3 "java/util/AbstractList" "modCount" "I" (.int (0 : Int32)) := D3 (Or.inl (hw _ (own_g (i := 78) rfl))) (ty := .int) (by decide)
    have F3_elementData : Fld Z h3 b3 "java/util/ArrayList" "elementData" "[Ljava/lang/Object;" .null := D3 (Or.inl (hw _ (own_g (i := 81) rfl))) (ty := (.array (.object "java/lang/Object"))) (by decide)
    have F3_size : Fld Z h3 b3 "java/util/ArrayList" "size" "I" (.int (0 : Int32)) := D3 (Or.inl (hw _ (own_g (i := 126) rfl))) (ty := .int) (by decide)
    refine own_go (B := T3.setTop (mkF m 29 #[.val (.int p1), .val (.int p2), .val (.int p3), .val (.int p4), .val (.int p5), .val (.int p6), .val (.ref r1), .val (.ref r2), .val (.int nk), .unset, .unset, .unset, .unset, .unset, .unset, .unset, .unset, .unset, .unset, .unset] [(.ref b3)])) st3 ?_
    subst kz_
    refine own_go (B := T3.setTop (mkF m 30 #[.val (.int p1), .val (.int p2), .val (.int p3), .val (.int p4), .val (.int p5), .val (.int p6), .val (.ref r1), .val (.ref r2), .val (.int (0 : Int32)), .unset, .unset, .unset, .unset, .unset, .unset, .unset, .unset, .unset, .unset, .unset] [(.ref b3), (.ref b3)])) (fun t k => ?_) ?_
    · show Steps p.tables e below (T3.setTop (mkF m 29 #[.val (.int p1), .val (.int p2), .val (.int p3), .val (.int p4), .val (.int p5), .val (.int p6), .val (.ref r1), .val (.ref r2), .val (.int (0 : Int32)), .unset, .unset, .unset, .unset, .unset, .unset, .unset, .unset, .unset, .unset, .unset] [(.ref b3)])) _
      refine XS.dup X3.here hx rfl (hb hby at_29) rfl rfl ?_
      show Steps p.tables e below (T3.setTop (mkF m 30 #[.val (.int p1), .val (.int p2), .val (.int p3), .val (.int p4), .val (.int p5), .val (.int p6), .val (.ref r1), .val (.ref r2), .val (.int (0 : Int32)), .unset, .unset, .unset, .unset, .unset, .unset, .unset, .unset, .unset, .unset, .unset] [(.ref b3), (.ref b3)])) _
      exact k
    -- pc 30: java/util/ArrayList.<init>
    obtain ⟨_, _, ⟨T4, L4, k4, n4⟩, -, X4, ⟨Lc4, hQ4, l4, y4, z4⟩, st4⟩ := X3.specialBack hx (y := (⟨"java/util/ArrayList", "<init>", "()V"⟩ : MethodName)) rfl hown (mvT hZ (hw _ (own_g (i := 61) rfl))) (mvT hZ (hw _ (own_g (i := 62) rfl))) (mvT hZ (hw _ (own_g (i := 63) rfl))) (by decide) (backOf (W := 1) (rmAlI l Z a0 hw [] b3 dz h3 n0 O A3 F3_modCount F3_elementData F3_size g_b3 S_D) hZ (hw _ (own_g (i := 63) rfl)) (hw _ (own_g (i := 60) rfl)) (by decide) (by decide)) (g := (mkF m 30 #[.val (.int p1), .val (.int p2), .val (.int p3), .val (.int p4), .val (.int p5), .val (.int p6), .val (.ref r1), .val (.ref r2), .val (.int (0 : Int32)), .unset, .unset, .unset, .unset, .unset, .unset, .unset, .unset, .unset, .unset, .unset] [(.ref b3), (.ref b3)])) rfl (by rw [hml]; rfl) (Steps.refl _) (a := b3) (argsL := []) (rest := [(.ref b3)]) (lenOf pd_3 rfl) rfl (by show 2 * 0 + _ ≤ _; exact Nat.le_of_eq rfl) (hb hby at_30) (fun _ hWm => ⟨rfl, e3, (by decide : 7 + 0 ≤ _), (by decide : 21 + 0 ≤ _)⟩)
    dsimp only [Pt.U, Pt.locs, Pt.cells, Pt.slots] at X4 l4 y4 z4 st4 hQ4
    subst l4 y4 z4
    obtain ⟨rfl, Nq4, Kq4, Gq4_0, Gq4_1, Gq4_2⟩ := hQ4
    replace N := Fr.app N Nq4
    replace Gq1_0 := Gq1_0.keep Kq4
    replace Gq2_0 := Gq2_0.keep Kq4
    replace A3 := A3.keep Kq4
    clear F3_modCount
    clear F3_elementData
    clear F3_size
    replace O := O.keep Kq4 (allS g_b3 all0)
    replace hk := Nat.le_trans hk Kq4.1
    refine own_go (B := T4.setTop (mkF m 33 #[.val (.int p1), .val (.int p2), .val (.int p3), .val (.int p4), .val (.int p5), .val (.int p6), .val (.ref r1), .val (.ref r2), .val (.int (0 : Int32)), .unset, .unset, .unset, .unset, .unset, .unset, .unset, .unset, .unset, .unset, .unset] [(.ref b3)])) (fun t k => st4.trans k) ?_
    refine own_go (B := T4.setTop (mkF m 67 #[.val (.int p1), .val (.int p2), .val (.int p3), .val (.int p4), .val (.int p5), .val (.int p6), .val (.ref r1), .val (.ref r2), .val (.int (0 : Int32)), .val (.ref b3), .unset, .unset, .unset, .unset, .unset, .unset, .unset, .unset, .unset, .unset] [])) (fun t k => ?_) ?_
    · show Steps p.tables e below (T4.setTop (mkF m 33 #[.val (.int p1), .val (.int p2), .val (.int p3), .val (.int p4), .val (.int p5), .val (.int p6), .val (.ref r1), .val (.ref r2), .val (.int (0 : Int32)), .unset, .unset, .unset, .unset, .unset, .unset, .unset, .unset, .unset, .unset, .unset] [(.ref b3)])) _
      refine XS.astore X4.here hx rfl (hb hby at_33) rfl rfl (l' := #[.val (.int p1), .val (.int p2), .val (.int p3), .val (.int p4), .val (.int p5), .val (.int p6), .val (.ref r1), .val (.ref r2), .val (.int (0 : Int32)), .val (.ref b3), .unset, .unset, .unset, .unset, .unset, .unset, .unset, .unset, .unset, .unset]) rfl ?_
      show Steps p.tables e below (T4.setTop (mkF m 35 #[.val (.int p1), .val (.int p2), .val (.int p3), .val (.int p4), .val (.int p5), .val (.int p6), .val (.ref r1), .val (.ref r2), .val (.int (0 : Int32)), .val (.ref b3), .unset, .unset, .unset, .unset, .unset, .unset, .unset, .unset, .unset, .unset] [])) _
      refine XS.iload X4.here hx rfl (hb hby at_35) rfl ?_
      show Steps p.tables e below (T4.setTop (mkF m 37 #[.val (.int p1), .val (.int p2), .val (.int p3), .val (.int p4), .val (.int p5), .val (.int p6), .val (.ref r1), .val (.ref r2), .val (.int (0 : Int32)), .val (.ref b3), .unset, .unset, .unset, .unset, .unset, .unset, .unset, .unset, .unset, .unset] [(.int (0 : Int32))])) _
      refine XS.iconst X4.here hx rfl (hb hby at_37) ?_
      show Steps p.tables e below (T4.setTop (mkF m 38 #[.val (.int p1), .val (.int p2), .val (.int p3), .val (.int p4), .val (.int p5), .val (.int p6), .val (.ref r1), .val (.ref r2), .val (.int (0 : Int32)), .val (.ref b3), .unset, .unset, .unset, .unset, .unset, .unset, .unset, .unset, .unset, .unset] [(.int (1 : Int32)), (.int (0 : Int32))])) _
      refine XS.icmpYes X4.here hx rfl (pc0 := 38) (pc' := 51) rfl (hb hby at_38) rfl (tlt (by decide)).1 (by decide) (by decide) ?_
      show Steps p.tables e below (T4.setTop (mkF m 51 #[.val (.int p1), .val (.int p2), .val (.int p3), .val (.int p4), .val (.int p5), .val (.int p6), .val (.ref r1), .val (.ref r2), .val (.int (0 : Int32)), .val (.ref b3), .unset, .unset, .unset, .unset, .unset, .unset, .unset, .unset, .unset, .unset] [])) _
      refine XS.iload X4.here hx rfl (hb hby at_51) rfl ?_
      show Steps p.tables e below (T4.setTop (mkF m 53 #[.val (.int p1), .val (.int p2), .val (.int p3), .val (.int p4), .val (.int p5), .val (.int p6), .val (.ref r1), .val (.ref r2), .val (.int (0 : Int32)), .val (.ref b3), .unset, .unset, .unset, .unset, .unset, .unset, .unset, .unset, .unset, .unset] [(.int (0 : Int32))])) _
      refine XS.iconst X4.here hx rfl (hb hby at_53) ?_
      show Steps p.tables e below (T4.setTop (mkF m 54 #[.val (.int p1), .val (.int p2), .val (.int p3), .val (.int p4), .val (.int p5), .val (.int p6), .val (.ref r1), .val (.ref r2), .val (.int (0 : Int32)), .val (.ref b3), .unset, .unset, .unset, .unset, .unset, .unset, .unset, .unset, .unset, .unset] [(.int (2 : Int32)), (.int (0 : Int32))])) _
      refine XS.icmpYes X4.here hx rfl (pc0 := 54) (pc' := 67) rfl (hb hby at_54) rfl (tlt (by decide)).1 (by decide) (by decide) ?_
      show Steps p.tables e below (T4.setTop (mkF m 67 #[.val (.int p1), .val (.int p2), .val (.int p3), .val (.int p4), .val (.int p5), .val (.int p6), .val (.ref r1), .val (.ref r2), .val (.int (0 : Int32)), .val (.ref b3), .unset, .unset, .unset, .unset, .unset, .unset, .unset, .unset, .unset, .unset] [])) _
      exact k
    obtain ⟨T5, h5, X5, e5, E5, A5, D5, -, st5⟩ := newO X4 hx hZ hown (hw _ (own_g (i := 82) rfl)) (hw _ (own_g (i := 83) rfl)) (hw _ (own_g (i := 2) rfl)) rfl (g := (mkF m 67 #[.val (.int p1), .val (.int p2), .val (.int p3), .val (.int p4), .val (.int p5), .val (.int p6), .val (.ref r1), .val (.ref r2), .val (.int (0 : Int32)), .val (.ref b3), .unset, .unset, .unset, .unset, .unset, .unset, .unset, .unset, .unset, .unset] [])) rfl (hb hby at_67) (by decide) (by decide)
    obtain ⟨b5, g5⟩ : ∃ z, z = T4.heap.size := ⟨_, rfl⟩
    rw [← g5] at A5 D5 st5
    have lt_r1_b5 : r1 < b5 := Nat.lt_of_lt_of_le Gq1_0.lt (Nat.le_of_eq g5.symm)
    have lt_r2_b5 : r2 < b5 := Nat.lt_of_lt_of_le Gq2_0.lt (Nat.le_of_eq g5.symm)
    have lt_b3_b5 : b3 < b5 := Nat.lt_of_lt_of_le A3.lt (Nat.le_of_eq g5.symm)
    have g_b5 : n0 ≤ b5 := Nat.le_trans (own_oldsz O) (Nat.le_of_eq g5.symm)
    replace Gq1_0 := Gq1_0.ext E5
    replace Gq2_0 := Gq2_0.ext E5
    replace A3 := A3.ext E5
    replace Gq4_0 := Gq4_0.ext E5
    replace Gq4_1 := Gq4_1.ext E5
    replace Gq4_2 := Gq4_2.ext E5
    replace O := O.ext E5
    replace hk := Nat.le_trans hk E5.1
    have F5_tokens : Fld Z h5 b5 "com/example/nasute/nasute/sql/TokenCursor" "tokens" "Ljava/util/List;" .null := D5 (Or.inr (hw _ (own_g (i := 94) rfl))) (ty := (.object "java/util/List")) (by decide)
    have F5_end : Fld Z h5 b5 "com/example/nasute/nasute/sql/TokenCursor" "end" "Lcom/example/nasute/nasute/sql/Token;" .null := D5 (Or.inr (hw _ (own_g (i := 103) rfl))) (ty := (.object "com/example/nasute/nasute/sql/Token")) (by decide)
    have F5_at : Fld Z h5 b5 "com/example/nasute/nasute/sql/TokenCursor" "at" "I" (.int (0 : Int32)) := D5 (Or.inl (hw _ (own_g (i := 115) rfl))) (ty := .int) (by decide)
    refine own_go (B := T5.setTop (mkF m 70 #[.val (.int p1), .val (.int p2), .val (.int p3), .val (.int p4), .val (.int p5), .val (.int p6), .val (.ref r1), .val (.ref r2), .val (.int (0 : Int32)), .val (.ref b3), .unset, .unset, .unset, .unset, .unset, .unset, .unset, .unset, .unset, .unset] [(.ref b5)])) st5 ?_
    refine own_go (B := T5.setTop (mkF m 74 #[.val (.int p1), .val (.int p2), .val (.int p3), .val (.int p4), .val (.int p5), .val (.int p6), .val (.ref r1), .val (.ref r2), .val (.int (0 : Int32)), .val (.ref b3), .unset, .unset, .unset, .unset, .unset, .unset, .unset, .unset, .unset, .unset] [(.int p3), (.ref b3), (.ref b5), (.ref b5)])) (fun t k => ?_) ?_
    · show Steps p.tables e below (T5.setTop (mkF m 70 #[.val (.int p1), .val (.int p2), .val (.int p3), .val (.int p4), .val (.int p5), .val (.int p6), .val (.ref r1), .val (.ref r2), .val (.int (0 : Int32)), .val (.ref b3), .unset, .unset, .unset, .unset, .unset, .unset, .unset, .unset, .unset, .unset] [(.ref b5)])) _
      refine XS.dup X5.here hx rfl (hb hby at_70) rfl rfl ?_
      show Steps p.tables e below (T5.setTop (mkF m 71 #[.val (.int p1), .val (.int p2), .val (.int p3), .val (.int p4), .val (.int p5), .val (.int p6), .val (.ref r1), .val (.ref r2), .val (.int (0 : Int32)), .val (.ref b3), .unset, .unset, .unset, .unset, .unset, .unset, .unset, .unset, .unset, .unset] [(.ref b5), (.ref b5)])) _
      refine XS.aload X5.here hx rfl (hb hby at_71) rfl rfl ?_
      show Steps p.tables e below (T5.setTop (mkF m 73 #[.val (.int p1), .val (.int p2), .val (.int p3), .val (.int p4), .val (.int p5), .val (.int p6), .val (.ref r1), .val (.ref r2), .val (.int (0 : Int32)), .val (.ref b3), .unset, .unset, .unset, .unset, .unset, .unset, .unset, .unset, .unset, .unset] [(.ref b3), (.ref b5), (.ref b5)])) _
      refine XS.iloadN X5.here hx rfl (hb hby at_73) rfl ?_
      show Steps p.tables e below (T5.setTop (mkF m 74 #[.val (.int p1), .val (.int p2), .val (.int p3), .val (.int p4), .val (.int p5), .val (.int p6), .val (.ref r1), .val (.ref r2), .val (.int (0 : Int32)), .val (.ref b3), .unset, .unset, .unset, .unset, .unset, .unset, .unset, .unset, .unset, .unset] [(.int p3), (.ref b3), (.ref b5), (.ref b5)])) _
      exact k
    -- pc 74: com/example/nasute/nasute/sql/TokenCursorIsTextEndPinLaw.<init>
    obtain ⟨_, _, ⟨T6, L6, k6, n6⟩, -, X6, hSq6, hgq6, ⟨Lc6, hQ6, l6, y6, z6⟩, st6⟩ := X5.specialBackS hx (y := (⟨"com/example/nasute/nasute/sql/TokenCursorIsTextEndPinLaw", "<init>", "(Ljava/util/List;I)V"⟩ : MethodName)) rfl hown (mvT hZ (hw _ (own_g (i := 84) rfl))) (mvT hZ (hw _ (own_g (i := 85) rfl))) (mvT hZ (hw _ (own_g (i := 86) rfl))) (by decide) (backOfS (W := 1) (rmPlI l Z a0 hw [] b5 b3 p3 w5 h5 n0 O A5 F5_tokens F5_end F5_at g_b5 S_5) hZ (hw _ (own_g (i := 86) rfl)) (hw _ (own_g (i := 2) rfl)) (by decide) (by decide)) (g := (mkF m 74 #[.val (.int p1), .val (.int p2), .val (.int p3), .val (.int p4), .val (.int p5), .val (.int p6), .val (.ref r1), .val (.ref r2), .val (.int (0 : Int32)), .val (.ref b3), .unset, .unset, .unset, .unset, .unset, .unset, .unset, .unset, .unset, .unset] [(.int p3), (.ref b3), (.ref b5), (.ref b5)])) rfl (by rw [hml]; rfl) (Steps.refl _) (a := b5) (argsL := [(.ref b3), (.int p3)]) (rest := [(.ref b5)]) (lenOf pd_13 rfl) rfl (by show 2 * 0 + _ ≤ _; exact Nat.le_of_eq rfl) (hb hby at_74) (fun _ hWm => ⟨rfl, e5, (by decide : 8 + 3 ≤ _), (by decide : 24 + 8 ≤ _)⟩)
    dsimp only [Pt.U, Pt.locs, Pt.cells, Pt.slots] at X6 l6 y6 z6 st6 hQ6 hSq6 hgq6
    subst l6 y6 z6
    obtain ⟨X6, hS, hZ, hown⟩ := rebS hS (by rw [e5]; exact hk) X6 hSq6 hgq6 hZ hown
    obtain ⟨en6, rfl, Nq6, Kq6, fq6_en, Gq6_0, Gq6_1, Gq6_2, Gq6_3⟩ := hQ6
    replace N := Fr.app N Nq6
    have lt_r1_en6 : r1 < en6 := Nat.lt_of_lt_of_le Gq1_0.lt fq6_en
    have lt_r2_en6 : r2 < en6 := Nat.lt_of_lt_of_le Gq2_0.lt fq6_en
    have lt_b3_en6 : b3 < en6 := Nat.lt_of_lt_of_le A3.lt fq6_en
    have lt_b5_en6 : b5 < en6 := Nat.lt_of_lt_of_le A5.lt fq6_en
    have g_en6 : n0 ≤ en6 := Nat.le_trans (own_oldsz O) fq6_en
    replace Gq1_0 := Gq1_0.keep Kq6
    replace Gq2_0 := Gq2_0.keep Kq6
    replace A3 := A3.keep Kq6
    replace Gq4_0 := Gq4_0.keep Kq6 (ninS (Nat.ne_of_lt lt_b3_b5) nin0)
    replace Gq4_1 := Gq4_1.keep Kq6 (ninS (Nat.ne_of_lt lt_b3_b5) nin0)
    replace Gq4_2 := Gq4_2.keep Kq6 (ninS (Nat.ne_of_lt lt_b3_b5) nin0)
    replace A5 := A5.keep Kq6
    clear F5_tokens
    clear F5_end
    clear F5_at
    replace O := O.keep Kq6 (allS g_b5 all0)
    have hk : T6.heap.size ≤ T6.heap.size := Nat.le_refl _
    refine own_go (B := T6.setTop (mkF m 77 #[.val (.int p1), .val (.int p2), .val (.int p3), .val (.int p4), .val (.int p5), .val (.int p6), .val (.ref r1), .val (.ref r2), .val (.int (0 : Int32)), .val (.ref b3), .unset, .unset, .unset, .unset, .unset, .unset, .unset, .unset, .unset, .unset] [(.ref b5)])) (fun t k => st6.trans k) ?_
    refine own_go (B := T6.setTop (mkF m 88 #[.val (.int p1), .val (.int p2), .val (.int p3), .val (.int p4), .val (.int p5), .val (.int p6), .val (.ref r1), .val (.ref r2), .val (.int (0 : Int32)), .val (.ref b3), .val (.ref b5), .val (.int (((p6.toUInt32 >>> ((6 : Int32) &&& 31).toUInt32).toInt32) &&& (3 : Int32))), .unset, .unset, .unset, .unset, .unset, .unset, .unset, .unset] [])) (fun t k => ?_) ?_
    · show Steps p.tables e below (T6.setTop (mkF m 77 #[.val (.int p1), .val (.int p2), .val (.int p3), .val (.int p4), .val (.int p5), .val (.int p6), .val (.ref r1), .val (.ref r2), .val (.int (0 : Int32)), .val (.ref b3), .unset, .unset, .unset, .unset, .unset, .unset, .unset, .unset, .unset, .unset] [(.ref b5)])) _
      refine XS.astore X6.here hx rfl (hb hby at_77) rfl rfl (l' := #[.val (.int p1), .val (.int p2), .val (.int p3), .val (.int p4), .val (.int p5), .val (.int p6), .val (.ref r1), .val (.ref r2), .val (.int (0 : Int32)), .val (.ref b3), .val (.ref b5), .unset, .unset, .unset, .unset, .unset, .unset, .unset, .unset, .unset]) rfl ?_
      show Steps p.tables e below (T6.setTop (mkF m 79 #[.val (.int p1), .val (.int p2), .val (.int p3), .val (.int p4), .val (.int p5), .val (.int p6), .val (.ref r1), .val (.ref r2), .val (.int (0 : Int32)), .val (.ref b3), .val (.ref b5), .unset, .unset, .unset, .unset, .unset, .unset, .unset, .unset, .unset] [])) _
      refine XS.iload X6.here hx rfl (hb hby at_79) rfl ?_
      show Steps p.tables e below (T6.setTop (mkF m 81 #[.val (.int p1), .val (.int p2), .val (.int p3), .val (.int p4), .val (.int p5), .val (.int p6), .val (.ref r1), .val (.ref r2), .val (.int (0 : Int32)), .val (.ref b3), .val (.ref b5), .unset, .unset, .unset, .unset, .unset, .unset, .unset, .unset, .unset] [(.int p6)])) _
      refine XS.bipush X6.here hx rfl (hb hby at_81) ?_
      show Steps p.tables e below (T6.setTop (mkF m 83 #[.val (.int p1), .val (.int p2), .val (.int p3), .val (.int p4), .val (.int p5), .val (.int p6), .val (.ref r1), .val (.ref r2), .val (.int (0 : Int32)), .val (.ref b3), .val (.ref b5), .unset, .unset, .unset, .unset, .unset, .unset, .unset, .unset, .unset] [(.int (6 : Int32)), (.int p6)])) _
      refine XS.iushr X6.here hx rfl (hb hby at_83) rfl ?_
      show Steps p.tables e below (T6.setTop (mkF m 84 #[.val (.int p1), .val (.int p2), .val (.int p3), .val (.int p4), .val (.int p5), .val (.int p6), .val (.ref r1), .val (.ref r2), .val (.int (0 : Int32)), .val (.ref b3), .val (.ref b5), .unset, .unset, .unset, .unset, .unset, .unset, .unset, .unset, .unset] [(.int ((p6.toUInt32 >>> ((6 : Int32) &&& 31).toUInt32).toInt32))])) _
      refine XS.iconst X6.here hx rfl (hb hby at_84) ?_
      show Steps p.tables e below (T6.setTop (mkF m 85 #[.val (.int p1), .val (.int p2), .val (.int p3), .val (.int p4), .val (.int p5), .val (.int p6), .val (.ref r1), .val (.ref r2), .val (.int (0 : Int32)), .val (.ref b3), .val (.ref b5), .unset, .unset, .unset, .unset, .unset, .unset, .unset, .unset, .unset] [(.int (3 : Int32)), (.int ((p6.toUInt32 >>> ((6 : Int32) &&& 31).toUInt32).toInt32))])) _
      refine XS.iand X6.here hx rfl (hb hby at_85) rfl ?_
      show Steps p.tables e below (T6.setTop (mkF m 86 #[.val (.int p1), .val (.int p2), .val (.int p3), .val (.int p4), .val (.int p5), .val (.int p6), .val (.ref r1), .val (.ref r2), .val (.int (0 : Int32)), .val (.ref b3), .val (.ref b5), .unset, .unset, .unset, .unset, .unset, .unset, .unset, .unset, .unset] [(.int (((p6.toUInt32 >>> ((6 : Int32) &&& 31).toUInt32).toInt32) &&& (3 : Int32)))])) _
      refine XS.istore X6.here hx rfl (hb hby at_86) rfl (l' := #[.val (.int p1), .val (.int p2), .val (.int p3), .val (.int p4), .val (.int p5), .val (.int p6), .val (.ref r1), .val (.ref r2), .val (.int (0 : Int32)), .val (.ref b3), .val (.ref b5), .val (.int (((p6.toUInt32 >>> ((6 : Int32) &&& 31).toUInt32).toInt32) &&& (3 : Int32))), .unset, .unset, .unset, .unset, .unset, .unset, .unset, .unset]) rfl ?_
      show Steps p.tables e below (T6.setTop (mkF m 88 #[.val (.int p1), .val (.int p2), .val (.int p3), .val (.int p4), .val (.int p5), .val (.int p6), .val (.ref r1), .val (.ref r2), .val (.int (0 : Int32)), .val (.ref b3), .val (.ref b5), .val (.int (((p6.toUInt32 >>> ((6 : Int32) &&& 31).toUInt32).toInt32) &&& (3 : Int32))), .unset, .unset, .unset, .unset, .unset, .unset, .unset, .unset] [])) _
      exact k
    obtain ⟨nm, hnm⟩ : ∃ z : Int32, z = (((p6.toUInt32 >>> ((6 : Int32) &&& 31).toUInt32).toInt32) &&& (3 : Int32)) := ⟨_, rfl⟩
    rw [← hnm]
    have bnm : nm = (0 : Int32) ∨ nm = (1 : Int32) ∨ nm = (2 : Int32) ∨ nm = (3 : Int32) := by rw [hnm]; exact own_mask3 _
    suffices hseg7 : ∀ (T7 : State) (vm7 : Vm) (kk7 : Nat) (L7 : List Loc), Stand p l e room_1 (s.setVm vm7) m #[(.int p1), (.int p2), (.int p3), (.int p4), (.int p5), (.int p6)] below meth c T7 L7 11 32 → T7.heap = T6.heap → Fr n0 L7 → s.Since vm7 kk7 → kk7 ≤ T6.heap.size → Z.Warmed39 (s.setVm vm7).vm → (s.setVm vm7).vm.findClass "com/example/nasute/nasute/sql/TokenCursorIsTextEndPinLaw" = some m.cls → ∃ s₂ o, Steps p.tables e below (T7.setTop (mkF m 124 #[.val (.int p1), .val (.int p2), .val (.int p3), .val (.int p4), .val (.int p5), .val (.int p6), .val (.ref r1), .val (.ref r2), .val (.int (0 : Int32)), .val (.ref b3), .val (.ref b5), .val (.int nm), .unset, .unset, .unset, .unset, .unset, .unset, .unset, .unset] [])) s₂ ∧ P s₂ o by
      by_cases mz_ : nm = (0 : Int32)
      · refine own_go (B := T6.setTop (mkF m 90 #[.val (.int p1), .val (.int p2), .val (.int p3), .val (.int p4), .val (.int p5), .val (.int p6), .val (.ref r1), .val (.ref r2), .val (.int (0 : Int32)), .val (.ref b3), .val (.ref b5), .val (.int nm), .unset, .unset, .unset, .unset, .unset, .unset, .unset, .unset] [(.int nm)])) (fun t k => ?_) ?_
        · show Steps p.tables e below (T6.setTop (mkF m 88 #[.val (.int p1), .val (.int p2), .val (.int p3), .val (.int p4), .val (.int p5), .val (.int p6), .val (.ref r1), .val (.ref r2), .val (.int (0 : Int32)), .val (.ref b3), .val (.ref b5), .val (.int nm), .unset, .unset, .unset, .unset, .unset, .unset, .unset, .unset] [])) _
          refine XS.iload X6.here hx rfl (hb hby at_88) rfl ?_
          show Steps p.tables e below (T6.setTop (mkF m 90 #[.val (.int p1), .val (.int p2), .val (.int p3), .val (.int p4), .val (.int p5), .val (.int p6), .val (.ref r1), .val (.ref r2), .val (.int (0 : Int32)), .val (.ref b3), .val (.ref b5), .val (.int nm), .unset, .unset, .unset, .unset, .unset, .unset, .unset, .unset] [(.int nm)])) _
          exact k
        subst mz_
        refine own_go (B := T6.setTop (mkF m 124 #[.val (.int p1), .val (.int p2), .val (.int p3), .val (.int p4), .val (.int p5), .val (.int p6), .val (.ref r1), .val (.ref r2), .val (.int (0 : Int32)), .val (.ref b3), .val (.ref b5), .val (.int (0 : Int32)), .unset, .unset, .unset, .unset, .unset, .unset, .unset, .unset] [])) (fun t k => ?_) ?_
        · show Steps p.tables e below (T6.setTop (mkF m 90 #[.val (.int p1), .val (.int p2), .val (.int p3), .val (.int p4), .val (.int p5), .val (.int p6), .val (.ref r1), .val (.ref r2), .val (.int (0 : Int32)), .val (.ref b3), .val (.ref b5), .val (.int (0 : Int32)), .unset, .unset, .unset, .unset, .unset, .unset, .unset, .unset] [(.int (0 : Int32))])) _
          refine XS.iconst X6.here hx rfl (hb hby at_90) ?_
          show Steps p.tables e below (T6.setTop (mkF m 91 #[.val (.int p1), .val (.int p2), .val (.int p3), .val (.int p4), .val (.int p5), .val (.int p6), .val (.ref r1), .val (.ref r2), .val (.int (0 : Int32)), .val (.ref b3), .val (.ref b5), .val (.int (0 : Int32)), .unset, .unset, .unset, .unset, .unset, .unset, .unset, .unset] [(.int (1 : Int32)), (.int (0 : Int32))])) _
          refine XS.icmpYes X6.here hx rfl (pc0 := 91) (pc' := 100) rfl (hb hby at_91) rfl (tlt (by decide)).1 (by decide) (by decide) ?_
          show Steps p.tables e below (T6.setTop (mkF m 100 #[.val (.int p1), .val (.int p2), .val (.int p3), .val (.int p4), .val (.int p5), .val (.int p6), .val (.ref r1), .val (.ref r2), .val (.int (0 : Int32)), .val (.ref b3), .val (.ref b5), .val (.int (0 : Int32)), .unset, .unset, .unset, .unset, .unset, .unset, .unset, .unset] [])) _
          refine XS.iload X6.here hx rfl (hb hby at_100) rfl ?_
          show Steps p.tables e below (T6.setTop (mkF m 102 #[.val (.int p1), .val (.int p2), .val (.int p3), .val (.int p4), .val (.int p5), .val (.int p6), .val (.ref r1), .val (.ref r2), .val (.int (0 : Int32)), .val (.ref b3), .val (.ref b5), .val (.int (0 : Int32)), .unset, .unset, .unset, .unset, .unset, .unset, .unset, .unset] [(.int (0 : Int32))])) _
          refine XS.iconst X6.here hx rfl (hb hby at_102) ?_
          show Steps p.tables e below (T6.setTop (mkF m 103 #[.val (.int p1), .val (.int p2), .val (.int p3), .val (.int p4), .val (.int p5), .val (.int p6), .val (.ref r1), .val (.ref r2), .val (.int (0 : Int32)), .val (.ref b3), .val (.ref b5), .val (.int (0 : Int32)), .unset, .unset, .unset, .unset, .unset, .unset, .unset, .unset] [(.int (2 : Int32)), (.int (0 : Int32))])) _
          refine XS.icmpYes X6.here hx rfl (pc0 := 103) (pc' := 112) rfl (hb hby at_103) rfl (tlt (by decide)).1 (by decide) (by decide) ?_
          show Steps p.tables e below (T6.setTop (mkF m 112 #[.val (.int p1), .val (.int p2), .val (.int p3), .val (.int p4), .val (.int p5), .val (.int p6), .val (.ref r1), .val (.ref r2), .val (.int (0 : Int32)), .val (.ref b3), .val (.ref b5), .val (.int (0 : Int32)), .unset, .unset, .unset, .unset, .unset, .unset, .unset, .unset] [])) _
          refine XS.iload X6.here hx rfl (hb hby at_112) rfl ?_
          show Steps p.tables e below (T6.setTop (mkF m 114 #[.val (.int p1), .val (.int p2), .val (.int p3), .val (.int p4), .val (.int p5), .val (.int p6), .val (.ref r1), .val (.ref r2), .val (.int (0 : Int32)), .val (.ref b3), .val (.ref b5), .val (.int (0 : Int32)), .unset, .unset, .unset, .unset, .unset, .unset, .unset, .unset] [(.int (0 : Int32))])) _
          refine XS.iconst X6.here hx rfl (hb hby at_114) ?_
          show Steps p.tables e below (T6.setTop (mkF m 115 #[.val (.int p1), .val (.int p2), .val (.int p3), .val (.int p4), .val (.int p5), .val (.int p6), .val (.ref r1), .val (.ref r2), .val (.int (0 : Int32)), .val (.ref b3), .val (.ref b5), .val (.int (0 : Int32)), .unset, .unset, .unset, .unset, .unset, .unset, .unset, .unset] [(.int (3 : Int32)), (.int (0 : Int32))])) _
          refine XS.icmpYes X6.here hx rfl (pc0 := 115) (pc' := 124) rfl (hb hby at_115) rfl (tlt (by decide)).1 (by decide) (by decide) ?_
          show Steps p.tables e below (T6.setTop (mkF m 124 #[.val (.int p1), .val (.int p2), .val (.int p3), .val (.int p4), .val (.int p5), .val (.int p6), .val (.ref r1), .val (.ref r2), .val (.int (0 : Int32)), .val (.ref b3), .val (.ref b5), .val (.int (0 : Int32)), .unset, .unset, .unset, .unset, .unset, .unset, .unset, .unset] [])) _
          exact k
        exact hseg7 T6 _ _ _ (X6.more (by decide) (by decide)) rfl N hS hk hZ hown
      · by_cases mo_ : nm = (1 : Int32)
        · refine own_go (B := T6.setTop (mkF m 90 #[.val (.int p1), .val (.int p2), .val (.int p3), .val (.int p4), .val (.int p5), .val (.int p6), .val (.ref r1), .val (.ref r2), .val (.int (0 : Int32)), .val (.ref b3), .val (.ref b5), .val (.int nm), .unset, .unset, .unset, .unset, .unset, .unset, .unset, .unset] [(.int nm)])) (fun t k => ?_) ?_
          · show Steps p.tables e below (T6.setTop (mkF m 88 #[.val (.int p1), .val (.int p2), .val (.int p3), .val (.int p4), .val (.int p5), .val (.int p6), .val (.ref r1), .val (.ref r2), .val (.int (0 : Int32)), .val (.ref b3), .val (.ref b5), .val (.int nm), .unset, .unset, .unset, .unset, .unset, .unset, .unset, .unset] [])) _
            refine XS.iload X6.here hx rfl (hb hby at_88) rfl ?_
            show Steps p.tables e below (T6.setTop (mkF m 90 #[.val (.int p1), .val (.int p2), .val (.int p3), .val (.int p4), .val (.int p5), .val (.int p6), .val (.ref r1), .val (.ref r2), .val (.int (0 : Int32)), .val (.ref b3), .val (.ref b5), .val (.int nm), .unset, .unset, .unset, .unset, .unset, .unset, .unset, .unset] [(.int nm)])) _
            exact k
          subst mo_
          refine own_go (B := T6.setTop (mkF m 96 #[.val (.int p1), .val (.int p2), .val (.int p3), .val (.int p4), .val (.int p5), .val (.int p6), .val (.ref r1), .val (.ref r2), .val (.int (0 : Int32)), .val (.ref b3), .val (.ref b5), .val (.int (1 : Int32)), .unset, .unset, .unset, .unset, .unset, .unset, .unset, .unset] [(.ref b5)])) (fun t k => ?_) ?_
          · show Steps p.tables e below (T6.setTop (mkF m 90 #[.val (.int p1), .val (.int p2), .val (.int p3), .val (.int p4), .val (.int p5), .val (.int p6), .val (.ref r1), .val (.ref r2), .val (.int (0 : Int32)), .val (.ref b3), .val (.ref b5), .val (.int (1 : Int32)), .unset, .unset, .unset, .unset, .unset, .unset, .unset, .unset] [(.int (1 : Int32))])) _
            refine XS.iconst X6.here hx rfl (hb hby at_90) ?_
            show Steps p.tables e below (T6.setTop (mkF m 91 #[.val (.int p1), .val (.int p2), .val (.int p3), .val (.int p4), .val (.int p5), .val (.int p6), .val (.ref r1), .val (.ref r2), .val (.int (0 : Int32)), .val (.ref b3), .val (.ref b5), .val (.int (1 : Int32)), .unset, .unset, .unset, .unset, .unset, .unset, .unset, .unset] [(.int (1 : Int32)), (.int (1 : Int32))])) _
            refine XS.icmpNo X6.here hx rfl (hb hby at_91) rfl (flt (by decide)).1 ?_
            show Steps p.tables e below (T6.setTop (mkF m 94 #[.val (.int p1), .val (.int p2), .val (.int p3), .val (.int p4), .val (.int p5), .val (.int p6), .val (.ref r1), .val (.ref r2), .val (.int (0 : Int32)), .val (.ref b3), .val (.ref b5), .val (.int (1 : Int32)), .unset, .unset, .unset, .unset, .unset, .unset, .unset, .unset] [])) _
            refine XS.aload X6.here hx rfl (hb hby at_94) rfl rfl ?_
            show Steps p.tables e below (T6.setTop (mkF m 96 #[.val (.int p1), .val (.int p2), .val (.int p3), .val (.int p4), .val (.int p5), .val (.int p6), .val (.ref r1), .val (.ref r2), .val (.int (0 : Int32)), .val (.ref b3), .val (.ref b5), .val (.int (1 : Int32)), .unset, .unset, .unset, .unset, .unset, .unset, .unset, .unset] [(.ref b5)])) _
            exact k
          -- pc 96: com/example/nasute/nasute/sql/TokenCursor.next
          obtain ⟨cq8, kq8, q8a, q8b, q8c⟩ := isOf hZ rfl A5
          obtain ⟨_, _, ⟨T8, L8, k8, n8⟩, -, X8, ⟨Lc8, hQ8, l8, y8, z8⟩, st8⟩ := X6.virtualBackUp hx (x := (⟨"com/example/nasute/nasute/sql/TokenCursorIsTextEndPinLaw", "next", "()Lcom/example/nasute/nasute/sql/Token;"⟩ : MethodName)) (y := (⟨"com/example/nasute/nasute/sql/TokenCursor", "next", "()Lcom/example/nasute/nasute/sql/Token;"⟩ : MethodName)) hown (mvT hZ (hw _ (own_g (i := 169) rfl))) (mvT hZ (hw _ (own_g (i := 170) rfl))) (mvT hZ (hw _ (own_g (i := 171) rfl))) (by decide) (mvT hZ (hw _ (own_g (i := 173) rfl))) (mvT hZ (hw _ (own_g (i := 172) rfl))) (backOf (W := 0) (rmNx00 l Z a0 hw [] b5 b3 en6 T6.heap n0 O A5 Gq6_1 Gq6_2 Gq6_3 A3 Gq4_2 g_b5 (Nat.ne_of_lt lt_b3_b5)) hZ (hw _ (own_g (i := 174) rfl)) (hw _ (own_g (i := 90) rfl)) (by decide) (by decide)) q8a q8c (g := (mkF m 96 #[.val (.int p1), .val (.int p2), .val (.int p3), .val (.int p4), .val (.int p5), .val (.int p6), .val (.ref r1), .val (.ref r2), .val (.int (0 : Int32)), .val (.ref b3), .val (.ref b5), .val (.int (1 : Int32)), .unset, .unset, .unset, .unset, .unset, .unset, .unset, .unset] [(.ref b5)])) rfl (by rw [hml]; rfl) (Steps.refl _) (argsL := []) (rest := []) (lenOf pd_16 rfl) rfl (by show 2 * 0 + _ ≤ _; exact Nat.le_of_eq rfl) (hb hby at_96) (fun _ hWm => ⟨rfl, rfl, (by decide : 11 + 0 ≤ _), (by decide : 32 + 0 ≤ _)⟩)
          dsimp only [Pt.U, Pt.locs, Pt.cells, Pt.slots] at X8 l8 y8 z8 st8 hQ8
          subst l8 y8 z8
          obtain ⟨r8, rfl, Nq8, Kq8⟩ := hQ8
          replace N := Fr.app N Nq8
          refine own_go (B := T8.setTop (mkF m 99 #[.val (.int p1), .val (.int p2), .val (.int p3), .val (.int p4), .val (.int p5), .val (.int p6), .val (.ref r1), .val (.ref r2), .val (.int (0 : Int32)), .val (.ref b3), .val (.ref b5), .val (.int (1 : Int32)), .unset, .unset, .unset, .unset, .unset, .unset, .unset, .unset] [(.ref r8)])) (fun t k => st8.trans k) ?_
          refine own_go (B := T8.setTop (mkF m 124 #[.val (.int p1), .val (.int p2), .val (.int p3), .val (.int p4), .val (.int p5), .val (.int p6), .val (.ref r1), .val (.ref r2), .val (.int (0 : Int32)), .val (.ref b3), .val (.ref b5), .val (.int (1 : Int32)), .unset, .unset, .unset, .unset, .unset, .unset, .unset, .unset] [])) (fun t k => ?_) ?_
          · show Steps p.tables e below (T8.setTop (mkF m 99 #[.val (.int p1), .val (.int p2), .val (.int p3), .val (.int p4), .val (.int p5), .val (.int p6), .val (.ref r1), .val (.ref r2), .val (.int (0 : Int32)), .val (.ref b3), .val (.ref b5), .val (.int (1 : Int32)), .unset, .unset, .unset, .unset, .unset, .unset, .unset, .unset] [(.ref r8)])) _
            refine XS.pop X8.here hx rfl (hb hby at_99) rfl rfl ?_
            show Steps p.tables e below (T8.setTop (mkF m 100 #[.val (.int p1), .val (.int p2), .val (.int p3), .val (.int p4), .val (.int p5), .val (.int p6), .val (.ref r1), .val (.ref r2), .val (.int (0 : Int32)), .val (.ref b3), .val (.ref b5), .val (.int (1 : Int32)), .unset, .unset, .unset, .unset, .unset, .unset, .unset, .unset] [])) _
            refine XS.iload X8.here hx rfl (hb hby at_100) rfl ?_
            show Steps p.tables e below (T8.setTop (mkF m 102 #[.val (.int p1), .val (.int p2), .val (.int p3), .val (.int p4), .val (.int p5), .val (.int p6), .val (.ref r1), .val (.ref r2), .val (.int (0 : Int32)), .val (.ref b3), .val (.ref b5), .val (.int (1 : Int32)), .unset, .unset, .unset, .unset, .unset, .unset, .unset, .unset] [(.int (1 : Int32))])) _
            refine XS.iconst X8.here hx rfl (hb hby at_102) ?_
            show Steps p.tables e below (T8.setTop (mkF m 103 #[.val (.int p1), .val (.int p2), .val (.int p3), .val (.int p4), .val (.int p5), .val (.int p6), .val (.ref r1), .val (.ref r2), .val (.int (0 : Int32)), .val (.ref b3), .val (.ref b5), .val (.int (1 : Int32)), .unset, .unset, .unset, .unset, .unset, .unset, .unset, .unset] [(.int (2 : Int32)), (.int (1 : Int32))])) _
            refine XS.icmpYes X8.here hx rfl (pc0 := 103) (pc' := 112) rfl (hb hby at_103) rfl (tlt (by decide)).1 (by decide) (by decide) ?_
            show Steps p.tables e below (T8.setTop (mkF m 112 #[.val (.int p1), .val (.int p2), .val (.int p3), .val (.int p4), .val (.int p5), .val (.int p6), .val (.ref r1), .val (.ref r2), .val (.int (0 : Int32)), .val (.ref b3), .val (.ref b5), .val (.int (1 : Int32)), .unset, .unset, .unset, .unset, .unset, .unset, .unset, .unset] [])) _
            refine XS.iload X8.here hx rfl (hb hby at_112) rfl ?_
            show Steps p.tables e below (T8.setTop (mkF m 114 #[.val (.int p1), .val (.int p2), .val (.int p3), .val (.int p4), .val (.int p5), .val (.int p6), .val (.ref r1), .val (.ref r2), .val (.int (0 : Int32)), .val (.ref b3), .val (.ref b5), .val (.int (1 : Int32)), .unset, .unset, .unset, .unset, .unset, .unset, .unset, .unset] [(.int (1 : Int32))])) _
            refine XS.iconst X8.here hx rfl (hb hby at_114) ?_
            show Steps p.tables e below (T8.setTop (mkF m 115 #[.val (.int p1), .val (.int p2), .val (.int p3), .val (.int p4), .val (.int p5), .val (.int p6), .val (.ref r1), .val (.ref r2), .val (.int (0 : Int32)), .val (.ref b3), .val (.ref b5), .val (.int (1 : Int32)), .unset, .unset, .unset, .unset, .unset, .unset, .unset, .unset] [(.int (3 : Int32)), (.int (1 : Int32))])) _
            refine XS.icmpYes X8.here hx rfl (pc0 := 115) (pc' := 124) rfl (hb hby at_115) rfl (tlt (by decide)).1 (by decide) (by decide) ?_
            show Steps p.tables e below (T8.setTop (mkF m 124 #[.val (.int p1), .val (.int p2), .val (.int p3), .val (.int p4), .val (.int p5), .val (.int p6), .val (.ref r1), .val (.ref r2), .val (.int (0 : Int32)), .val (.ref b3), .val (.ref b5), .val (.int (1 : Int32)), .unset, .unset, .unset, .unset, .unset, .unset, .unset, .unset] [])) _
            exact k
          exact hseg7 T8 _ _ _ (X8.more (by decide) (by decide)) Kq8 N hS hk hZ hown
        · by_cases mt_ : nm = (2 : Int32)
          · refine own_go (B := T6.setTop (mkF m 90 #[.val (.int p1), .val (.int p2), .val (.int p3), .val (.int p4), .val (.int p5), .val (.int p6), .val (.ref r1), .val (.ref r2), .val (.int (0 : Int32)), .val (.ref b3), .val (.ref b5), .val (.int nm), .unset, .unset, .unset, .unset, .unset, .unset, .unset, .unset] [(.int nm)])) (fun t k => ?_) ?_
            · show Steps p.tables e below (T6.setTop (mkF m 88 #[.val (.int p1), .val (.int p2), .val (.int p3), .val (.int p4), .val (.int p5), .val (.int p6), .val (.ref r1), .val (.ref r2), .val (.int (0 : Int32)), .val (.ref b3), .val (.ref b5), .val (.int nm), .unset, .unset, .unset, .unset, .unset, .unset, .unset, .unset] [])) _
              refine XS.iload X6.here hx rfl (hb hby at_88) rfl ?_
              show Steps p.tables e below (T6.setTop (mkF m 90 #[.val (.int p1), .val (.int p2), .val (.int p3), .val (.int p4), .val (.int p5), .val (.int p6), .val (.ref r1), .val (.ref r2), .val (.int (0 : Int32)), .val (.ref b3), .val (.ref b5), .val (.int nm), .unset, .unset, .unset, .unset, .unset, .unset, .unset, .unset] [(.int nm)])) _
              exact k
            subst mt_
            refine own_go (B := T6.setTop (mkF m 96 #[.val (.int p1), .val (.int p2), .val (.int p3), .val (.int p4), .val (.int p5), .val (.int p6), .val (.ref r1), .val (.ref r2), .val (.int (0 : Int32)), .val (.ref b3), .val (.ref b5), .val (.int (2 : Int32)), .unset, .unset, .unset, .unset, .unset, .unset, .unset, .unset] [(.ref b5)])) (fun t k => ?_) ?_
            · show Steps p.tables e below (T6.setTop (mkF m 90 #[.val (.int p1), .val (.int p2), .val (.int p3), .val (.int p4), .val (.int p5), .val (.int p6), .val (.ref r1), .val (.ref r2), .val (.int (0 : Int32)), .val (.ref b3), .val (.ref b5), .val (.int (2 : Int32)), .unset, .unset, .unset, .unset, .unset, .unset, .unset, .unset] [(.int (2 : Int32))])) _
              refine XS.iconst X6.here hx rfl (hb hby at_90) ?_
              show Steps p.tables e below (T6.setTop (mkF m 91 #[.val (.int p1), .val (.int p2), .val (.int p3), .val (.int p4), .val (.int p5), .val (.int p6), .val (.ref r1), .val (.ref r2), .val (.int (0 : Int32)), .val (.ref b3), .val (.ref b5), .val (.int (2 : Int32)), .unset, .unset, .unset, .unset, .unset, .unset, .unset, .unset] [(.int (1 : Int32)), (.int (2 : Int32))])) _
              refine XS.icmpNo X6.here hx rfl (hb hby at_91) rfl (flt (by decide)).1 ?_
              show Steps p.tables e below (T6.setTop (mkF m 94 #[.val (.int p1), .val (.int p2), .val (.int p3), .val (.int p4), .val (.int p5), .val (.int p6), .val (.ref r1), .val (.ref r2), .val (.int (0 : Int32)), .val (.ref b3), .val (.ref b5), .val (.int (2 : Int32)), .unset, .unset, .unset, .unset, .unset, .unset, .unset, .unset] [])) _
              refine XS.aload X6.here hx rfl (hb hby at_94) rfl rfl ?_
              show Steps p.tables e below (T6.setTop (mkF m 96 #[.val (.int p1), .val (.int p2), .val (.int p3), .val (.int p4), .val (.int p5), .val (.int p6), .val (.ref r1), .val (.ref r2), .val (.int (0 : Int32)), .val (.ref b3), .val (.ref b5), .val (.int (2 : Int32)), .unset, .unset, .unset, .unset, .unset, .unset, .unset, .unset] [(.ref b5)])) _
              exact k
            -- pc 96: com/example/nasute/nasute/sql/TokenCursor.next
            obtain ⟨cq9, kq9, q9a, q9b, q9c⟩ := isOf hZ rfl A5
            obtain ⟨_, _, ⟨T9, L9, k9, n9⟩, -, X9, ⟨Lc9, hQ9, l9, y9, z9⟩, st9⟩ := X6.virtualBackUp hx (x := (⟨"com/example/nasute/nasute/sql/TokenCursorIsTextEndPinLaw", "next", "()Lcom/example/nasute/nasute/sql/Token;"⟩ : MethodName)) (y := (⟨"com/example/nasute/nasute/sql/TokenCursor", "next", "()Lcom/example/nasute/nasute/sql/Token;"⟩ : MethodName)) hown (mvT hZ (hw _ (own_g (i := 169) rfl))) (mvT hZ (hw _ (own_g (i := 170) rfl))) (mvT hZ (hw _ (own_g (i := 171) rfl))) (by decide) (mvT hZ (hw _ (own_g (i := 173) rfl))) (mvT hZ (hw _ (own_g (i := 172) rfl))) (backOf (W := 0) (rmNx00 l Z a0 hw [] b5 b3 en6 T6.heap n0 O A5 Gq6_1 Gq6_2 Gq6_3 A3 Gq4_2 g_b5 (Nat.ne_of_lt lt_b3_b5)) hZ (hw _ (own_g (i := 174) rfl)) (hw _ (own_g (i := 90) rfl)) (by decide) (by decide)) q9a q9c (g := (mkF m 96 #[.val (.int p1), .val (.int p2), .val (.int p3), .val (.int p4), .val (.int p5), .val (.int p6), .val (.ref r1), .val (.ref r2), .val (.int (0 : Int32)), .val (.ref b3), .val (.ref b5), .val (.int (2 : Int32)), .unset, .unset, .unset, .unset, .unset, .unset, .unset, .unset] [(.ref b5)])) rfl (by rw [hml]; rfl) (Steps.refl _) (argsL := []) (rest := []) (lenOf pd_16 rfl) rfl (by show 2 * 0 + _ ≤ _; exact Nat.le_of_eq rfl) (hb hby at_96) (fun _ hWm => ⟨rfl, rfl, (by decide : 11 + 0 ≤ _), (by decide : 32 + 0 ≤ _)⟩)
            dsimp only [Pt.U, Pt.locs, Pt.cells, Pt.slots] at X9 l9 y9 z9 st9 hQ9
            subst l9 y9 z9
            obtain ⟨r9, rfl, Nq9, Kq9⟩ := hQ9
            replace N := Fr.app N Nq9
            refine own_go (B := T9.setTop (mkF m 99 #[.val (.int p1), .val (.int p2), .val (.int p3), .val (.int p4), .val (.int p5), .val (.int p6), .val (.ref r1), .val (.ref r2), .val (.int (0 : Int32)), .val (.ref b3), .val (.ref b5), .val (.int (2 : Int32)), .unset, .unset, .unset, .unset, .unset, .unset, .unset, .unset] [(.ref r9)])) (fun t k => st9.trans k) ?_
            refine own_go (B := T9.setTop (mkF m 108 #[.val (.int p1), .val (.int p2), .val (.int p3), .val (.int p4), .val (.int p5), .val (.int p6), .val (.ref r1), .val (.ref r2), .val (.int (0 : Int32)), .val (.ref b3), .val (.ref b5), .val (.int (2 : Int32)), .unset, .unset, .unset, .unset, .unset, .unset, .unset, .unset] [(.ref b5)])) (fun t k => ?_) ?_
            · show Steps p.tables e below (T9.setTop (mkF m 99 #[.val (.int p1), .val (.int p2), .val (.int p3), .val (.int p4), .val (.int p5), .val (.int p6), .val (.ref r1), .val (.ref r2), .val (.int (0 : Int32)), .val (.ref b3), .val (.ref b5), .val (.int (2 : Int32)), .unset, .unset, .unset, .unset, .unset, .unset, .unset, .unset] [(.ref r9)])) _
              refine XS.pop X9.here hx rfl (hb hby at_99) rfl rfl ?_
              show Steps p.tables e below (T9.setTop (mkF m 100 #[.val (.int p1), .val (.int p2), .val (.int p3), .val (.int p4), .val (.int p5), .val (.int p6), .val (.ref r1), .val (.ref r2), .val (.int (0 : Int32)), .val (.ref b3), .val (.ref b5), .val (.int (2 : Int32)), .unset, .unset, .unset, .unset, .unset, .unset, .unset, .unset] [])) _
              refine XS.iload X9.here hx rfl (hb hby at_100) rfl ?_
              show Steps p.tables e below (T9.setTop (mkF m 102 #[.val (.int p1), .val (.int p2), .val (.int p3), .val (.int p4), .val (.int p5), .val (.int p6), .val (.ref r1), .val (.ref r2), .val (.int (0 : Int32)), .val (.ref b3), .val (.ref b5), .val (.int (2 : Int32)), .unset, .unset, .unset, .unset, .unset, .unset, .unset, .unset] [(.int (2 : Int32))])) _
              refine XS.iconst X9.here hx rfl (hb hby at_102) ?_
              show Steps p.tables e below (T9.setTop (mkF m 103 #[.val (.int p1), .val (.int p2), .val (.int p3), .val (.int p4), .val (.int p5), .val (.int p6), .val (.ref r1), .val (.ref r2), .val (.int (0 : Int32)), .val (.ref b3), .val (.ref b5), .val (.int (2 : Int32)), .unset, .unset, .unset, .unset, .unset, .unset, .unset, .unset] [(.int (2 : Int32)), (.int (2 : Int32))])) _
              refine XS.icmpNo X9.here hx rfl (hb hby at_103) rfl (flt (by decide)).1 ?_
              show Steps p.tables e below (T9.setTop (mkF m 106 #[.val (.int p1), .val (.int p2), .val (.int p3), .val (.int p4), .val (.int p5), .val (.int p6), .val (.ref r1), .val (.ref r2), .val (.int (0 : Int32)), .val (.ref b3), .val (.ref b5), .val (.int (2 : Int32)), .unset, .unset, .unset, .unset, .unset, .unset, .unset, .unset] [])) _
              refine XS.aload X9.here hx rfl (hb hby at_106) rfl rfl ?_
              show Steps p.tables e below (T9.setTop (mkF m 108 #[.val (.int p1), .val (.int p2), .val (.int p3), .val (.int p4), .val (.int p5), .val (.int p6), .val (.ref r1), .val (.ref r2), .val (.int (0 : Int32)), .val (.ref b3), .val (.ref b5), .val (.int (2 : Int32)), .unset, .unset, .unset, .unset, .unset, .unset, .unset, .unset] [(.ref b5)])) _
              exact k
            -- pc 108: com/example/nasute/nasute/sql/TokenCursor.next
            obtain ⟨cq10, kq10, q10a, q10b, q10c⟩ := isOf hZ Kq9 A5
            obtain ⟨_, _, ⟨T10, L10, k10, n10⟩, -, X10, ⟨Lc10, hQ10, l10, y10, z10⟩, st10⟩ := X9.virtualBackUp hx (x := (⟨"com/example/nasute/nasute/sql/TokenCursorIsTextEndPinLaw", "next", "()Lcom/example/nasute/nasute/sql/Token;"⟩ : MethodName)) (y := (⟨"com/example/nasute/nasute/sql/TokenCursor", "next", "()Lcom/example/nasute/nasute/sql/Token;"⟩ : MethodName)) hown (mvT hZ (hw _ (own_g (i := 169) rfl))) (mvT hZ (hw _ (own_g (i := 170) rfl))) (mvT hZ (hw _ (own_g (i := 171) rfl))) (by decide) (mvT hZ (hw _ (own_g (i := 173) rfl))) (mvT hZ (hw _ (own_g (i := 172) rfl))) (backOf (W := 0) (rmNx00 l Z a0 hw [] b5 b3 en6 T6.heap n0 O A5 Gq6_1 Gq6_2 Gq6_3 A3 Gq4_2 g_b5 (Nat.ne_of_lt lt_b3_b5)) hZ (hw _ (own_g (i := 174) rfl)) (hw _ (own_g (i := 90) rfl)) (by decide) (by decide)) q10a q10c (g := (mkF m 108 #[.val (.int p1), .val (.int p2), .val (.int p3), .val (.int p4), .val (.int p5), .val (.int p6), .val (.ref r1), .val (.ref r2), .val (.int (0 : Int32)), .val (.ref b3), .val (.ref b5), .val (.int (2 : Int32)), .unset, .unset, .unset, .unset, .unset, .unset, .unset, .unset] [(.ref b5)])) rfl (by rw [hml]; rfl) (Steps.refl _) (argsL := []) (rest := []) (lenOf pd_16 rfl) rfl (by show 2 * 0 + _ ≤ _; exact Nat.le_of_eq rfl) (hb hby at_108) (fun _ hWm => ⟨rfl, Kq9, (by decide : 11 + 0 ≤ _), (by decide : 32 + 0 ≤ _)⟩)
            dsimp only [Pt.U, Pt.locs, Pt.cells, Pt.slots] at X10 l10 y10 z10 st10 hQ10
            subst l10 y10 z10
            obtain ⟨r10, rfl, Nq10, Kq10⟩ := hQ10
            replace N := Fr.app N Nq10
            refine own_go (B := T10.setTop (mkF m 111 #[.val (.int p1), .val (.int p2), .val (.int p3), .val (.int p4), .val (.int p5), .val (.int p6), .val (.ref r1), .val (.ref r2), .val (.int (0 : Int32)), .val (.ref b3), .val (.ref b5), .val (.int (2 : Int32)), .unset, .unset, .unset, .unset, .unset, .unset, .unset, .unset] [(.ref r10)])) (fun t k => st10.trans k) ?_
            refine own_go (B := T10.setTop (mkF m 124 #[.val (.int p1), .val (.int p2), .val (.int p3), .val (.int p4), .val (.int p5), .val (.int p6), .val (.ref r1), .val (.ref r2), .val (.int (0 : Int32)), .val (.ref b3), .val (.ref b5), .val (.int (2 : Int32)), .unset, .unset, .unset, .unset, .unset, .unset, .unset, .unset] [])) (fun t k => ?_) ?_
            · show Steps p.tables e below (T10.setTop (mkF m 111 #[.val (.int p1), .val (.int p2), .val (.int p3), .val (.int p4), .val (.int p5), .val (.int p6), .val (.ref r1), .val (.ref r2), .val (.int (0 : Int32)), .val (.ref b3), .val (.ref b5), .val (.int (2 : Int32)), .unset, .unset, .unset, .unset, .unset, .unset, .unset, .unset] [(.ref r10)])) _
              refine XS.pop X10.here hx rfl (hb hby at_111) rfl rfl ?_
              show Steps p.tables e below (T10.setTop (mkF m 112 #[.val (.int p1), .val (.int p2), .val (.int p3), .val (.int p4), .val (.int p5), .val (.int p6), .val (.ref r1), .val (.ref r2), .val (.int (0 : Int32)), .val (.ref b3), .val (.ref b5), .val (.int (2 : Int32)), .unset, .unset, .unset, .unset, .unset, .unset, .unset, .unset] [])) _
              refine XS.iload X10.here hx rfl (hb hby at_112) rfl ?_
              show Steps p.tables e below (T10.setTop (mkF m 114 #[.val (.int p1), .val (.int p2), .val (.int p3), .val (.int p4), .val (.int p5), .val (.int p6), .val (.ref r1), .val (.ref r2), .val (.int (0 : Int32)), .val (.ref b3), .val (.ref b5), .val (.int (2 : Int32)), .unset, .unset, .unset, .unset, .unset, .unset, .unset, .unset] [(.int (2 : Int32))])) _
              refine XS.iconst X10.here hx rfl (hb hby at_114) ?_
              show Steps p.tables e below (T10.setTop (mkF m 115 #[.val (.int p1), .val (.int p2), .val (.int p3), .val (.int p4), .val (.int p5), .val (.int p6), .val (.ref r1), .val (.ref r2), .val (.int (0 : Int32)), .val (.ref b3), .val (.ref b5), .val (.int (2 : Int32)), .unset, .unset, .unset, .unset, .unset, .unset, .unset, .unset] [(.int (3 : Int32)), (.int (2 : Int32))])) _
              refine XS.icmpYes X10.here hx rfl (pc0 := 115) (pc' := 124) rfl (hb hby at_115) rfl (tlt (by decide)).1 (by decide) (by decide) ?_
              show Steps p.tables e below (T10.setTop (mkF m 124 #[.val (.int p1), .val (.int p2), .val (.int p3), .val (.int p4), .val (.int p5), .val (.int p6), .val (.ref r1), .val (.ref r2), .val (.int (0 : Int32)), .val (.ref b3), .val (.ref b5), .val (.int (2 : Int32)), .unset, .unset, .unset, .unset, .unset, .unset, .unset, .unset] [])) _
              exact k
            exact hseg7 T10 _ _ _ (X10.more (by decide) (by decide)) Kq10 N hS hk hZ hown
          · refine own_go (B := T6.setTop (mkF m 90 #[.val (.int p1), .val (.int p2), .val (.int p3), .val (.int p4), .val (.int p5), .val (.int p6), .val (.ref r1), .val (.ref r2), .val (.int (0 : Int32)), .val (.ref b3), .val (.ref b5), .val (.int nm), .unset, .unset, .unset, .unset, .unset, .unset, .unset, .unset] [(.int nm)])) (fun t k => ?_) ?_
            · show Steps p.tables e below (T6.setTop (mkF m 88 #[.val (.int p1), .val (.int p2), .val (.int p3), .val (.int p4), .val (.int p5), .val (.int p6), .val (.ref r1), .val (.ref r2), .val (.int (0 : Int32)), .val (.ref b3), .val (.ref b5), .val (.int nm), .unset, .unset, .unset, .unset, .unset, .unset, .unset, .unset] [])) _
              refine XS.iload X6.here hx rfl (hb hby at_88) rfl ?_
              show Steps p.tables e below (T6.setTop (mkF m 90 #[.val (.int p1), .val (.int p2), .val (.int p3), .val (.int p4), .val (.int p5), .val (.int p6), .val (.ref r1), .val (.ref r2), .val (.int (0 : Int32)), .val (.ref b3), .val (.ref b5), .val (.int nm), .unset, .unset, .unset, .unset, .unset, .unset, .unset, .unset] [(.int nm)])) _
              exact k
            have mh_ : nm = (3 : Int32) := ((bnm.resolve_left mz_).resolve_left mo_).resolve_left mt_
            subst mh_
            refine own_go (B := T6.setTop (mkF m 96 #[.val (.int p1), .val (.int p2), .val (.int p3), .val (.int p4), .val (.int p5), .val (.int p6), .val (.ref r1), .val (.ref r2), .val (.int (0 : Int32)), .val (.ref b3), .val (.ref b5), .val (.int (3 : Int32)), .unset, .unset, .unset, .unset, .unset, .unset, .unset, .unset] [(.ref b5)])) (fun t k => ?_) ?_
            · show Steps p.tables e below (T6.setTop (mkF m 90 #[.val (.int p1), .val (.int p2), .val (.int p3), .val (.int p4), .val (.int p5), .val (.int p6), .val (.ref r1), .val (.ref r2), .val (.int (0 : Int32)), .val (.ref b3), .val (.ref b5), .val (.int (3 : Int32)), .unset, .unset, .unset, .unset, .unset, .unset, .unset, .unset] [(.int (3 : Int32))])) _
              refine XS.iconst X6.here hx rfl (hb hby at_90) ?_
              show Steps p.tables e below (T6.setTop (mkF m 91 #[.val (.int p1), .val (.int p2), .val (.int p3), .val (.int p4), .val (.int p5), .val (.int p6), .val (.ref r1), .val (.ref r2), .val (.int (0 : Int32)), .val (.ref b3), .val (.ref b5), .val (.int (3 : Int32)), .unset, .unset, .unset, .unset, .unset, .unset, .unset, .unset] [(.int (1 : Int32)), (.int (3 : Int32))])) _
              refine XS.icmpNo X6.here hx rfl (hb hby at_91) rfl (flt (by decide)).1 ?_
              show Steps p.tables e below (T6.setTop (mkF m 94 #[.val (.int p1), .val (.int p2), .val (.int p3), .val (.int p4), .val (.int p5), .val (.int p6), .val (.ref r1), .val (.ref r2), .val (.int (0 : Int32)), .val (.ref b3), .val (.ref b5), .val (.int (3 : Int32)), .unset, .unset, .unset, .unset, .unset, .unset, .unset, .unset] [])) _
              refine XS.aload X6.here hx rfl (hb hby at_94) rfl rfl ?_
              show Steps p.tables e below (T6.setTop (mkF m 96 #[.val (.int p1), .val (.int p2), .val (.int p3), .val (.int p4), .val (.int p5), .val (.int p6), .val (.ref r1), .val (.ref r2), .val (.int (0 : Int32)), .val (.ref b3), .val (.ref b5), .val (.int (3 : Int32)), .unset, .unset, .unset, .unset, .unset, .unset, .unset, .unset] [(.ref b5)])) _
              exact k
            -- pc 96: com/example/nasute/nasute/sql/TokenCursor.next
            obtain ⟨cq11, kq11, q11a, q11b, q11c⟩ := isOf hZ rfl A5
            obtain ⟨_, _, ⟨T11, L11, k11, n11⟩, -, X11, ⟨Lc11, hQ11, l11, y11, z11⟩, st11⟩ := X6.virtualBackUp hx (x := (⟨"com/example/nasute/nasute/sql/TokenCursorIsTextEndPinLaw", "next", "()Lcom/example/nasute/nasute/sql/Token;"⟩ : MethodName)) (y := (⟨"com/example/nasute/nasute/sql/TokenCursor", "next", "()Lcom/example/nasute/nasute/sql/Token;"⟩ : MethodName)) hown (mvT hZ (hw _ (own_g (i := 169) rfl))) (mvT hZ (hw _ (own_g (i := 170) rfl))) (mvT hZ (hw _ (own_g (i := 171) rfl))) (by decide) (mvT hZ (hw _ (own_g (i := 173) rfl))) (mvT hZ (hw _ (own_g (i := 172) rfl))) (backOf (W := 0) (rmNx00 l Z a0 hw [] b5 b3 en6 T6.heap n0 O A5 Gq6_1 Gq6_2 Gq6_3 A3 Gq4_2 g_b5 (Nat.ne_of_lt lt_b3_b5)) hZ (hw _ (own_g (i := 174) rfl)) (hw _ (own_g (i := 90) rfl)) (by decide) (by decide)) q11a q11c (g := (mkF m 96 #[.val (.int p1), .val (.int p2), .val (.int p3), .val (.int p4), .val (.int p5), .val (.int p6), .val (.ref r1), .val (.ref r2), .val (.int (0 : Int32)), .val (.ref b3), .val (.ref b5), .val (.int (3 : Int32)), .unset, .unset, .unset, .unset, .unset, .unset, .unset, .unset] [(.ref b5)])) rfl (by rw [hml]; rfl) (Steps.refl _) (argsL := []) (rest := []) (lenOf pd_16 rfl) rfl (by show 2 * 0 + _ ≤ _; exact Nat.le_of_eq rfl) (hb hby at_96) (fun _ hWm => ⟨rfl, rfl, (by decide : 11 + 0 ≤ _), (by decide : 32 + 0 ≤ _)⟩)
            dsimp only [Pt.U, Pt.locs, Pt.cells, Pt.slots] at X11 l11 y11 z11 st11 hQ11
            subst l11 y11 z11
            obtain ⟨r11, rfl, Nq11, Kq11⟩ := hQ11
            replace N := Fr.app N Nq11
            refine own_go (B := T11.setTop (mkF m 99 #[.val (.int p1), .val (.int p2), .val (.int p3), .val (.int p4), .val (.int p5), .val (.int p6), .val (.ref r1), .val (.ref r2), .val (.int (0 : Int32)), .val (.ref b3), .val (.ref b5), .val (.int (3 : Int32)), .unset, .unset, .unset, .unset, .unset, .unset, .unset, .unset] [(.ref r11)])) (fun t k => st11.trans k) ?_
            refine own_go (B := T11.setTop (mkF m 108 #[.val (.int p1), .val (.int p2), .val (.int p3), .val (.int p4), .val (.int p5), .val (.int p6), .val (.ref r1), .val (.ref r2), .val (.int (0 : Int32)), .val (.ref b3), .val (.ref b5), .val (.int (3 : Int32)), .unset, .unset, .unset, .unset, .unset, .unset, .unset, .unset] [(.ref b5)])) (fun t k => ?_) ?_
            · show Steps p.tables e below (T11.setTop (mkF m 99 #[.val (.int p1), .val (.int p2), .val (.int p3), .val (.int p4), .val (.int p5), .val (.int p6), .val (.ref r1), .val (.ref r2), .val (.int (0 : Int32)), .val (.ref b3), .val (.ref b5), .val (.int (3 : Int32)), .unset, .unset, .unset, .unset, .unset, .unset, .unset, .unset] [(.ref r11)])) _
              refine XS.pop X11.here hx rfl (hb hby at_99) rfl rfl ?_
              show Steps p.tables e below (T11.setTop (mkF m 100 #[.val (.int p1), .val (.int p2), .val (.int p3), .val (.int p4), .val (.int p5), .val (.int p6), .val (.ref r1), .val (.ref r2), .val (.int (0 : Int32)), .val (.ref b3), .val (.ref b5), .val (.int (3 : Int32)), .unset, .unset, .unset, .unset, .unset, .unset, .unset, .unset] [])) _
              refine XS.iload X11.here hx rfl (hb hby at_100) rfl ?_
              show Steps p.tables e below (T11.setTop (mkF m 102 #[.val (.int p1), .val (.int p2), .val (.int p3), .val (.int p4), .val (.int p5), .val (.int p6), .val (.ref r1), .val (.ref r2), .val (.int (0 : Int32)), .val (.ref b3), .val (.ref b5), .val (.int (3 : Int32)), .unset, .unset, .unset, .unset, .unset, .unset, .unset, .unset] [(.int (3 : Int32))])) _
              refine XS.iconst X11.here hx rfl (hb hby at_102) ?_
              show Steps p.tables e below (T11.setTop (mkF m 103 #[.val (.int p1), .val (.int p2), .val (.int p3), .val (.int p4), .val (.int p5), .val (.int p6), .val (.ref r1), .val (.ref r2), .val (.int (0 : Int32)), .val (.ref b3), .val (.ref b5), .val (.int (3 : Int32)), .unset, .unset, .unset, .unset, .unset, .unset, .unset, .unset] [(.int (2 : Int32)), (.int (3 : Int32))])) _
              refine XS.icmpNo X11.here hx rfl (hb hby at_103) rfl (flt (by decide)).1 ?_
              show Steps p.tables e below (T11.setTop (mkF m 106 #[.val (.int p1), .val (.int p2), .val (.int p3), .val (.int p4), .val (.int p5), .val (.int p6), .val (.ref r1), .val (.ref r2), .val (.int (0 : Int32)), .val (.ref b3), .val (.ref b5), .val (.int (3 : Int32)), .unset, .unset, .unset, .unset, .unset, .unset, .unset, .unset] [])) _
              refine XS.aload X11.here hx rfl (hb hby at_106) rfl rfl ?_
              show Steps p.tables e below (T11.setTop (mkF m 108 #[.val (.int p1), .val (.int p2), .val (.int p3), .val (.int p4), .val (.int p5), .val (.int p6), .val (.ref r1), .val (.ref r2), .val (.int (0 : Int32)), .val (.ref b3), .val (.ref b5), .val (.int (3 : Int32)), .unset, .unset, .unset, .unset, .unset, .unset, .unset, .unset] [(.ref b5)])) _
              exact k
            -- pc 108: com/example/nasute/nasute/sql/TokenCursor.next
            obtain ⟨cq12, kq12, q12a, q12b, q12c⟩ := isOf hZ Kq11 A5
            obtain ⟨_, _, ⟨T12, L12, k12, n12⟩, -, X12, ⟨Lc12, hQ12, l12, y12, z12⟩, st12⟩ := X11.virtualBackUp hx (x := (⟨"com/example/nasute/nasute/sql/TokenCursorIsTextEndPinLaw", "next", "()Lcom/example/nasute/nasute/sql/Token;"⟩ : MethodName)) (y := (⟨"com/example/nasute/nasute/sql/TokenCursor", "next", "()Lcom/example/nasute/nasute/sql/Token;"⟩ : MethodName)) hown (mvT hZ (hw _ (own_g (i := 169) rfl))) (mvT hZ (hw _ (own_g (i := 170) rfl))) (mvT hZ (hw _ (own_g (i := 171) rfl))) (by decide) (mvT hZ (hw _ (own_g (i := 173) rfl))) (mvT hZ (hw _ (own_g (i := 172) rfl))) (backOf (W := 0) (rmNx00 l Z a0 hw [] b5 b3 en6 T6.heap n0 O A5 Gq6_1 Gq6_2 Gq6_3 A3 Gq4_2 g_b5 (Nat.ne_of_lt lt_b3_b5)) hZ (hw _ (own_g (i := 174) rfl)) (hw _ (own_g (i := 90) rfl)) (by decide) (by decide)) q12a q12c (g := (mkF m 108 #[.val (.int p1), .val (.int p2), .val (.int p3), .val (.int p4), .val (.int p5), .val (.int p6), .val (.ref r1), .val (.ref r2), .val (.int (0 : Int32)), .val (.ref b3), .val (.ref b5), .val (.int (3 : Int32)), .unset, .unset, .unset, .unset, .unset, .unset, .unset, .unset] [(.ref b5)])) rfl (by rw [hml]; rfl) (Steps.refl _) (argsL := []) (rest := []) (lenOf pd_16 rfl) rfl (by show 2 * 0 + _ ≤ _; exact Nat.le_of_eq rfl) (hb hby at_108) (fun _ hWm => ⟨rfl, Kq11, (by decide : 11 + 0 ≤ _), (by decide : 32 + 0 ≤ _)⟩)
            dsimp only [Pt.U, Pt.locs, Pt.cells, Pt.slots] at X12 l12 y12 z12 st12 hQ12
            subst l12 y12 z12
            obtain ⟨r12, rfl, Nq12, Kq12⟩ := hQ12
            replace N := Fr.app N Nq12
            refine own_go (B := T12.setTop (mkF m 111 #[.val (.int p1), .val (.int p2), .val (.int p3), .val (.int p4), .val (.int p5), .val (.int p6), .val (.ref r1), .val (.ref r2), .val (.int (0 : Int32)), .val (.ref b3), .val (.ref b5), .val (.int (3 : Int32)), .unset, .unset, .unset, .unset, .unset, .unset, .unset, .unset] [(.ref r12)])) (fun t k => st12.trans k) ?_
            refine own_go (B := T12.setTop (mkF m 120 #[.val (.int p1), .val (.int p2), .val (.int p3), .val (.int p4), .val (.int p5), .val (.int p6), .val (.ref r1), .val (.ref r2), .val (.int (0 : Int32)), .val (.ref b3), .val (.ref b5), .val (.int (3 : Int32)), .unset, .unset, .unset, .unset, .unset, .unset, .unset, .unset] [(.ref b5)])) (fun t k => ?_) ?_
            · show Steps p.tables e below (T12.setTop (mkF m 111 #[.val (.int p1), .val (.int p2), .val (.int p3), .val (.int p4), .val (.int p5), .val (.int p6), .val (.ref r1), .val (.ref r2), .val (.int (0 : Int32)), .val (.ref b3), .val (.ref b5), .val (.int (3 : Int32)), .unset, .unset, .unset, .unset, .unset, .unset, .unset, .unset] [(.ref r12)])) _
              refine XS.pop X12.here hx rfl (hb hby at_111) rfl rfl ?_
              show Steps p.tables e below (T12.setTop (mkF m 112 #[.val (.int p1), .val (.int p2), .val (.int p3), .val (.int p4), .val (.int p5), .val (.int p6), .val (.ref r1), .val (.ref r2), .val (.int (0 : Int32)), .val (.ref b3), .val (.ref b5), .val (.int (3 : Int32)), .unset, .unset, .unset, .unset, .unset, .unset, .unset, .unset] [])) _
              refine XS.iload X12.here hx rfl (hb hby at_112) rfl ?_
              show Steps p.tables e below (T12.setTop (mkF m 114 #[.val (.int p1), .val (.int p2), .val (.int p3), .val (.int p4), .val (.int p5), .val (.int p6), .val (.ref r1), .val (.ref r2), .val (.int (0 : Int32)), .val (.ref b3), .val (.ref b5), .val (.int (3 : Int32)), .unset, .unset, .unset, .unset, .unset, .unset, .unset, .unset] [(.int (3 : Int32))])) _
              refine XS.iconst X12.here hx rfl (hb hby at_114) ?_
              show Steps p.tables e below (T12.setTop (mkF m 115 #[.val (.int p1), .val (.int p2), .val (.int p3), .val (.int p4), .val (.int p5), .val (.int p6), .val (.ref r1), .val (.ref r2), .val (.int (0 : Int32)), .val (.ref b3), .val (.ref b5), .val (.int (3 : Int32)), .unset, .unset, .unset, .unset, .unset, .unset, .unset, .unset] [(.int (3 : Int32)), (.int (3 : Int32))])) _
              refine XS.icmpNo X12.here hx rfl (hb hby at_115) rfl (flt (by decide)).1 ?_
              show Steps p.tables e below (T12.setTop (mkF m 118 #[.val (.int p1), .val (.int p2), .val (.int p3), .val (.int p4), .val (.int p5), .val (.int p6), .val (.ref r1), .val (.ref r2), .val (.int (0 : Int32)), .val (.ref b3), .val (.ref b5), .val (.int (3 : Int32)), .unset, .unset, .unset, .unset, .unset, .unset, .unset, .unset] [])) _
              refine XS.aload X12.here hx rfl (hb hby at_118) rfl rfl ?_
              show Steps p.tables e below (T12.setTop (mkF m 120 #[.val (.int p1), .val (.int p2), .val (.int p3), .val (.int p4), .val (.int p5), .val (.int p6), .val (.ref r1), .val (.ref r2), .val (.int (0 : Int32)), .val (.ref b3), .val (.ref b5), .val (.int (3 : Int32)), .unset, .unset, .unset, .unset, .unset, .unset, .unset, .unset] [(.ref b5)])) _
              exact k
            -- pc 120: com/example/nasute/nasute/sql/TokenCursor.next
            obtain ⟨cq13, kq13, q13a, q13b, q13c⟩ := isOf hZ Kq12 A5
            obtain ⟨_, _, ⟨T13, L13, k13, n13⟩, -, X13, ⟨Lc13, hQ13, l13, y13, z13⟩, st13⟩ := X12.virtualBackUp hx (x := (⟨"com/example/nasute/nasute/sql/TokenCursorIsTextEndPinLaw", "next", "()Lcom/example/nasute/nasute/sql/Token;"⟩ : MethodName)) (y := (⟨"com/example/nasute/nasute/sql/TokenCursor", "next", "()Lcom/example/nasute/nasute/sql/Token;"⟩ : MethodName)) hown (mvT hZ (hw _ (own_g (i := 169) rfl))) (mvT hZ (hw _ (own_g (i := 170) rfl))) (mvT hZ (hw _ (own_g (i := 171) rfl))) (by decide) (mvT hZ (hw _ (own_g (i := 173) rfl))) (mvT hZ (hw _ (own_g (i := 172) rfl))) (backOf (W := 0) (rmNx00 l Z a0 hw [] b5 b3 en6 T6.heap n0 O A5 Gq6_1 Gq6_2 Gq6_3 A3 Gq4_2 g_b5 (Nat.ne_of_lt lt_b3_b5)) hZ (hw _ (own_g (i := 174) rfl)) (hw _ (own_g (i := 90) rfl)) (by decide) (by decide)) q13a q13c (g := (mkF m 120 #[.val (.int p1), .val (.int p2), .val (.int p3), .val (.int p4), .val (.int p5), .val (.int p6), .val (.ref r1), .val (.ref r2), .val (.int (0 : Int32)), .val (.ref b3), .val (.ref b5), .val (.int (3 : Int32)), .unset, .unset, .unset, .unset, .unset, .unset, .unset, .unset] [(.ref b5)])) rfl (by rw [hml]; rfl) (Steps.refl _) (argsL := []) (rest := []) (lenOf pd_16 rfl) rfl (by show 2 * 0 + _ ≤ _; exact Nat.le_of_eq rfl) (hb hby at_120) (fun _ hWm => ⟨rfl, Kq12, (by decide : 11 + 0 ≤ _), (by decide : 32 + 0 ≤ _)⟩)
            dsimp only [Pt.U, Pt.locs, Pt.cells, Pt.slots] at X13 l13 y13 z13 st13 hQ13
            subst l13 y13 z13
            obtain ⟨r13, rfl, Nq13, Kq13⟩ := hQ13
            replace N := Fr.app N Nq13
            refine own_go (B := T13.setTop (mkF m 123 #[.val (.int p1), .val (.int p2), .val (.int p3), .val (.int p4), .val (.int p5), .val (.int p6), .val (.ref r1), .val (.ref r2), .val (.int (0 : Int32)), .val (.ref b3), .val (.ref b5), .val (.int (3 : Int32)), .unset, .unset, .unset, .unset, .unset, .unset, .unset, .unset] [(.ref r13)])) (fun t k => st13.trans k) ?_
            refine own_go (B := T13.setTop (mkF m 124 #[.val (.int p1), .val (.int p2), .val (.int p3), .val (.int p4), .val (.int p5), .val (.int p6), .val (.ref r1), .val (.ref r2), .val (.int (0 : Int32)), .val (.ref b3), .val (.ref b5), .val (.int (3 : Int32)), .unset, .unset, .unset, .unset, .unset, .unset, .unset, .unset] [])) (fun t k => ?_) ?_
            · show Steps p.tables e below (T13.setTop (mkF m 123 #[.val (.int p1), .val (.int p2), .val (.int p3), .val (.int p4), .val (.int p5), .val (.int p6), .val (.ref r1), .val (.ref r2), .val (.int (0 : Int32)), .val (.ref b3), .val (.ref b5), .val (.int (3 : Int32)), .unset, .unset, .unset, .unset, .unset, .unset, .unset, .unset] [(.ref r13)])) _
              refine XS.pop X13.here hx rfl (hb hby at_123) rfl rfl ?_
              show Steps p.tables e below (T13.setTop (mkF m 124 #[.val (.int p1), .val (.int p2), .val (.int p3), .val (.int p4), .val (.int p5), .val (.int p6), .val (.ref r1), .val (.ref r2), .val (.int (0 : Int32)), .val (.ref b3), .val (.ref b5), .val (.int (3 : Int32)), .unset, .unset, .unset, .unset, .unset, .unset, .unset, .unset] [])) _
              exact k
            exact hseg7 T13 _ _ _ (X13.more (by decide) (by decide)) Kq13 N hS hk hZ hown
    intro T7 vm7 kk7 L7 X7 e7 N hS hk hZ hown
    refine own_go (B := T7.setTop (mkF m 128 #[.val (.int p1), .val (.int p2), .val (.int p3), .val (.int p4), .val (.int p5), .val (.int p6), .val (.ref r1), .val (.ref r2), .val (.int (0 : Int32)), .val (.ref b3), .val (.ref b5), .val (.int nm), .unset, .unset, .unset, .unset, .unset, .unset, .unset, .unset] [(.int (0 : Int32)), (.int nm)])) (fun t k => ?_) ?_
    · show Steps p.tables e below (T7.setTop (mkF m 124 #[.val (.int p1), .val (.int p2), .val (.int p3), .val (.int p4), .val (.int p5), .val (.int p6), .val (.ref r1), .val (.ref r2), .val (.int (0 : Int32)), .val (.ref b3), .val (.ref b5), .val (.int nm), .unset, .unset, .unset, .unset, .unset, .unset, .unset, .unset] [])) _
      refine XS.iload X7.here hx rfl (hb hby at_124) rfl ?_
      show Steps p.tables e below (T7.setTop (mkF m 126 #[.val (.int p1), .val (.int p2), .val (.int p3), .val (.int p4), .val (.int p5), .val (.int p6), .val (.ref r1), .val (.ref r2), .val (.int (0 : Int32)), .val (.ref b3), .val (.ref b5), .val (.int nm), .unset, .unset, .unset, .unset, .unset, .unset, .unset, .unset] [(.int nm)])) _
      refine XS.iload X7.here hx rfl (hb hby at_126) rfl ?_
      show Steps p.tables e below (T7.setTop (mkF m 128 #[.val (.int p1), .val (.int p2), .val (.int p3), .val (.int p4), .val (.int p5), .val (.int p6), .val (.ref r1), .val (.ref r2), .val (.int (0 : Int32)), .val (.ref b3), .val (.ref b5), .val (.int nm), .unset, .unset, .unset, .unset, .unset, .unset, .unset, .unset] [(.int (0 : Int32)), (.int nm)])) _
      exact k
    -- pc 128: java/lang/Math.min
    obtain ⟨_, _, ⟨T14, L14, k14, n14⟩, -, X14, ⟨Lc14, hQ14, l14, y14, z14⟩, st14⟩ := Jvm.LawKit.callS X7 hx (y := (⟨"java/lang/Math", "min", "(II)I"⟩ : MethodName)) hown (mvT hZ (hw _ (own_g (i := 104) rfl))) (mvT hZ (hw _ (own_g (i := 105) rfl))) (mvT hZ (hw _ (own_g (i := 106) rfl))) (mvT hZ (hw _ (own_g (i := 107) rfl))) (by decide) (backOf (W := 0) (rmMin l Z a0 hw [] nm (0 : Int32) T6.heap n0 O ) hZ (hw _ (own_g (i := 107) rfl)) (hw _ (own_g (i := 106) rfl)) (by decide) (by decide)) (g := (mkF m 128 #[.val (.int p1), .val (.int p2), .val (.int p3), .val (.int p4), .val (.int p5), .val (.int p6), .val (.ref r1), .val (.ref r2), .val (.int (0 : Int32)), .val (.ref b3), .val (.ref b5), .val (.int nm), .unset, .unset, .unset, .unset, .unset, .unset, .unset, .unset] [(.int (0 : Int32)), (.int nm)])) rfl (by rw [hml]; rfl) (argsL := [(.int nm), (.int (0 : Int32))]) (rest := []) (lenOf pd_7 rfl) rfl (by show 2 * 0 + _ ≤ _; exact Nat.le_of_eq rfl) (hb hby at_128) (fun _ hWm => ⟨rfl, e7, (by decide : 11 + 0 ≤ _), (by decide : 32 + 0 ≤ _)⟩)
    dsimp only [Pt.U, Pt.locs, Pt.cells, Pt.slots] at X14 l14 y14 z14 st14 hQ14
    subst l14 y14 z14
    obtain ⟨b14, rfl, Nq14, Kq14, cq14_0⟩ := hQ14
    replace N := Fr.app N Nq14
    refine own_go (B := T14.setTop (mkF m 131 #[.val (.int p1), .val (.int p2), .val (.int p3), .val (.int p4), .val (.int p5), .val (.int p6), .val (.ref r1), .val (.ref r2), .val (.int (0 : Int32)), .val (.ref b3), .val (.ref b5), .val (.int nm), .unset, .unset, .unset, .unset, .unset, .unset, .unset, .unset] [(.int b14)])) st14 ?_
    have hmn : (0 : Int32) = b14 := (cq14_0.trans (own_min0 bnm)).symm
    subst hmn
    refine own_go (B := T14.setTop (mkF m 133 #[.val (.int p1), .val (.int p2), .val (.int p3), .val (.int p4), .val (.int p5), .val (.int p6), .val (.ref r1), .val (.ref r2), .val (.int (0 : Int32)), .val (.ref b3), .val (.ref b5), .val (.int nm), .val (.int (0 : Int32)), .unset, .unset, .unset, .unset, .unset, .unset, .unset] [])) (fun t k => ?_) ?_
    · show Steps p.tables e below (T14.setTop (mkF m 131 #[.val (.int p1), .val (.int p2), .val (.int p3), .val (.int p4), .val (.int p5), .val (.int p6), .val (.ref r1), .val (.ref r2), .val (.int (0 : Int32)), .val (.ref b3), .val (.ref b5), .val (.int nm), .unset, .unset, .unset, .unset, .unset, .unset, .unset, .unset] [(.int (0 : Int32))])) _
      refine XS.istore X14.here hx rfl (hb hby at_131) rfl (l' := #[.val (.int p1), .val (.int p2), .val (.int p3), .val (.int p4), .val (.int p5), .val (.int p6), .val (.ref r1), .val (.ref r2), .val (.int (0 : Int32)), .val (.ref b3), .val (.ref b5), .val (.int nm), .val (.int (0 : Int32)), .unset, .unset, .unset, .unset, .unset, .unset, .unset]) rfl ?_
      show Steps p.tables e below (T14.setTop (mkF m 133 #[.val (.int p1), .val (.int p2), .val (.int p3), .val (.int p4), .val (.int p5), .val (.int p6), .val (.ref r1), .val (.ref r2), .val (.int (0 : Int32)), .val (.ref b3), .val (.ref b5), .val (.int nm), .val (.int (0 : Int32)), .unset, .unset, .unset, .unset, .unset, .unset, .unset] [])) _
      exact k
    suffices hseg15 : ∀ (T15 : State) (vm15 : Vm) (kk15 : Nat) (L15 : List Loc) (xe15 : Int32), Stand p l e room_1 (s.setVm vm15) m #[(.int p1), (.int p2), (.int p3), (.int p4), (.int p5), (.int p6)] below meth c T15 L15 11 32 → T15.heap = T6.heap → Fr n0 L15 → s.Since vm15 kk15 → kk15 ≤ T6.heap.size → Z.Warmed39 (s.setVm vm15).vm → (s.setVm vm15).vm.findClass "com/example/nasute/nasute/sql/TokenCursorIsTextEndPinLaw" = some m.cls → (own_in ((0 : Int32) + p2) (0 : Int32) → xe15 = (0 : Int32)) → (¬ own_in ((0 : Int32) + p2) (0 : Int32) → xe15 = (1 : Int32)) → ∃ s₂ o, Steps p.tables e below (T15.setTop (mkF m 164 #[.val (.int p1), .val (.int p2), .val (.int p3), .val (.int p4), .val (.int p5), .val (.int p6), .val (.ref r1), .val (.ref r2), .val (.int (0 : Int32)), .val (.ref b3), .val (.ref b5), .val (.int nm), .val (.int (0 : Int32)), .val (.long (((0 : Int32).toInt64) + (p2.toInt64))), .second, .val (.int xe15), .unset, .unset, .unset, .unset] [])) s₂ ∧ P s₂ o by
      by_cases gi : own_in ((0 : Int32) + p2) (0 : Int32)
      · refine own_go (B := T14.setTop (mkF m 164 #[.val (.int p1), .val (.int p2), .val (.int p3), .val (.int p4), .val (.int p5), .val (.int p6), .val (.ref r1), .val (.ref r2), .val (.int (0 : Int32)), .val (.ref b3), .val (.ref b5), .val (.int nm), .val (.int (0 : Int32)), .val (.long (((0 : Int32).toInt64) + (p2.toInt64))), .second, .val (.int (0 : Int32)), .unset, .unset, .unset, .unset] [])) (fun t k => ?_) ?_
        · show Steps p.tables e below (T14.setTop (mkF m 133 #[.val (.int p1), .val (.int p2), .val (.int p3), .val (.int p4), .val (.int p5), .val (.int p6), .val (.ref r1), .val (.ref r2), .val (.int (0 : Int32)), .val (.ref b3), .val (.ref b5), .val (.int nm), .val (.int (0 : Int32)), .unset, .unset, .unset, .unset, .unset, .unset, .unset] [])) _
          refine XS.iload X14.here hx rfl (hb hby at_133) rfl ?_
          show Steps p.tables e below (T14.setTop (mkF m 135 #[.val (.int p1), .val (.int p2), .val (.int p3), .val (.int p4), .val (.int p5), .val (.int p6), .val (.ref r1), .val (.ref r2), .val (.int (0 : Int32)), .val (.ref b3), .val (.ref b5), .val (.int nm), .val (.int (0 : Int32)), .unset, .unset, .unset, .unset, .unset, .unset, .unset] [(.int (0 : Int32))])) _
          refine XS.i2l X14.here hx rfl (hb hby at_135) rfl ?_
          show Steps p.tables e below (T14.setTop (mkF m 136 #[.val (.int p1), .val (.int p2), .val (.int p3), .val (.int p4), .val (.int p5), .val (.int p6), .val (.ref r1), .val (.ref r2), .val (.int (0 : Int32)), .val (.ref b3), .val (.ref b5), .val (.int nm), .val (.int (0 : Int32)), .unset, .unset, .unset, .unset, .unset, .unset, .unset] [(.long ((0 : Int32).toInt64))])) _
          refine XS.iloadN X14.here hx rfl (hb hby at_136) rfl ?_
          show Steps p.tables e below (T14.setTop (mkF m 137 #[.val (.int p1), .val (.int p2), .val (.int p3), .val (.int p4), .val (.int p5), .val (.int p6), .val (.ref r1), .val (.ref r2), .val (.int (0 : Int32)), .val (.ref b3), .val (.ref b5), .val (.int nm), .val (.int (0 : Int32)), .unset, .unset, .unset, .unset, .unset, .unset, .unset] [(.int p2), (.long ((0 : Int32).toInt64))])) _
          refine XS.i2l X14.here hx rfl (hb hby at_137) rfl ?_
          show Steps p.tables e below (T14.setTop (mkF m 138 #[.val (.int p1), .val (.int p2), .val (.int p3), .val (.int p4), .val (.int p5), .val (.int p6), .val (.ref r1), .val (.ref r2), .val (.int (0 : Int32)), .val (.ref b3), .val (.ref b5), .val (.int nm), .val (.int (0 : Int32)), .unset, .unset, .unset, .unset, .unset, .unset, .unset] [(.long (p2.toInt64)), (.long ((0 : Int32).toInt64))])) _
          refine XS.ladd X14.here hx rfl (hb hby at_138) rfl ?_
          show Steps p.tables e below (T14.setTop (mkF m 139 #[.val (.int p1), .val (.int p2), .val (.int p3), .val (.int p4), .val (.int p5), .val (.int p6), .val (.ref r1), .val (.ref r2), .val (.int (0 : Int32)), .val (.ref b3), .val (.ref b5), .val (.int nm), .val (.int (0 : Int32)), .unset, .unset, .unset, .unset, .unset, .unset, .unset] [(.long (((0 : Int32).toInt64) + (p2.toInt64)))])) _
          refine XS.lstore X14.here hx rfl (hb hby at_139) rfl (l' := #[.val (.int p1), .val (.int p2), .val (.int p3), .val (.int p4), .val (.int p5), .val (.int p6), .val (.ref r1), .val (.ref r2), .val (.int (0 : Int32)), .val (.ref b3), .val (.ref b5), .val (.int nm), .val (.int (0 : Int32)), .val (.long (((0 : Int32).toInt64) + (p2.toInt64))), .second, .unset, .unset, .unset, .unset, .unset]) rfl ?_
          show Steps p.tables e below (T14.setTop (mkF m 141 #[.val (.int p1), .val (.int p2), .val (.int p3), .val (.int p4), .val (.int p5), .val (.int p6), .val (.ref r1), .val (.ref r2), .val (.int (0 : Int32)), .val (.ref b3), .val (.ref b5), .val (.int nm), .val (.int (0 : Int32)), .val (.long (((0 : Int32).toInt64) + (p2.toInt64))), .second, .unset, .unset, .unset, .unset, .unset] [])) _
          refine XS.lload X14.here hx rfl (hb hby at_141) rfl ?_
          show Steps p.tables e below (T14.setTop (mkF m 143 #[.val (.int p1), .val (.int p2), .val (.int p3), .val (.int p4), .val (.int p5), .val (.int p6), .val (.ref r1), .val (.ref r2), .val (.int (0 : Int32)), .val (.ref b3), .val (.ref b5), .val (.int nm), .val (.int (0 : Int32)), .val (.long (((0 : Int32).toInt64) + (p2.toInt64))), .second, .unset, .unset, .unset, .unset, .unset] [(.long (((0 : Int32).toInt64) + (p2.toInt64)))])) _
          refine XS.lconst X14.here hx rfl (hb hby at_143) ?_
          show Steps p.tables e below (T14.setTop (mkF m 144 #[.val (.int p1), .val (.int p2), .val (.int p3), .val (.int p4), .val (.int p5), .val (.int p6), .val (.ref r1), .val (.ref r2), .val (.int (0 : Int32)), .val (.ref b3), .val (.ref b5), .val (.int nm), .val (.int (0 : Int32)), .val (.long (((0 : Int32).toInt64) + (p2.toInt64))), .second, .unset, .unset, .unset, .unset, .unset] [(.long (0 : Int64)), (.long (((0 : Int32).toInt64) + (p2.toInt64)))])) _
          refine XS.lcmp X14.here hx rfl (hb hby at_144) rfl ?_
          show Steps p.tables e below (T14.setTop (mkF m 145 #[.val (.int p1), .val (.int p2), .val (.int p3), .val (.int p4), .val (.int p5), .val (.int p6), .val (.ref r1), .val (.ref r2), .val (.int (0 : Int32)), .val (.ref b3), .val (.ref b5), .val (.int nm), .val (.int (0 : Int32)), .val (.long (((0 : Int32).toInt64) + (p2.toInt64))), .second, .unset, .unset, .unset, .unset, .unset] [(.int (lcmpW (((0 : Int32).toInt64) + (p2.toInt64)) (0 : Int64)))])) _
          refine XS.ifNo X14.here hx rfl (hb hby at_145) rfl (XT.ll_lt_f ((own_idx (A := (0 : Int32)) (k := (0 : Int32)) (p := p2) (by decide) (by decide)).mp gi).1) ?_
          show Steps p.tables e below (T14.setTop (mkF m 148 #[.val (.int p1), .val (.int p2), .val (.int p3), .val (.int p4), .val (.int p5), .val (.int p6), .val (.ref r1), .val (.ref r2), .val (.int (0 : Int32)), .val (.ref b3), .val (.ref b5), .val (.int nm), .val (.int (0 : Int32)), .val (.long (((0 : Int32).toInt64) + (p2.toInt64))), .second, .unset, .unset, .unset, .unset, .unset] [])) _
          refine XS.lload X14.here hx rfl (hb hby at_148) rfl ?_
          show Steps p.tables e below (T14.setTop (mkF m 150 #[.val (.int p1), .val (.int p2), .val (.int p3), .val (.int p4), .val (.int p5), .val (.int p6), .val (.ref r1), .val (.ref r2), .val (.int (0 : Int32)), .val (.ref b3), .val (.ref b5), .val (.int nm), .val (.int (0 : Int32)), .val (.long (((0 : Int32).toInt64) + (p2.toInt64))), .second, .unset, .unset, .unset, .unset, .unset] [(.long (((0 : Int32).toInt64) + (p2.toInt64)))])) _
          refine XS.iload X14.here hx rfl (hb hby at_150) rfl ?_
          show Steps p.tables e below (T14.setTop (mkF m 152 #[.val (.int p1), .val (.int p2), .val (.int p3), .val (.int p4), .val (.int p5), .val (.int p6), .val (.ref r1), .val (.ref r2), .val (.int (0 : Int32)), .val (.ref b3), .val (.ref b5), .val (.int nm), .val (.int (0 : Int32)), .val (.long (((0 : Int32).toInt64) + (p2.toInt64))), .second, .unset, .unset, .unset, .unset, .unset] [(.int (0 : Int32)), (.long (((0 : Int32).toInt64) + (p2.toInt64)))])) _
          refine XS.i2l X14.here hx rfl (hb hby at_152) rfl ?_
          show Steps p.tables e below (T14.setTop (mkF m 153 #[.val (.int p1), .val (.int p2), .val (.int p3), .val (.int p4), .val (.int p5), .val (.int p6), .val (.ref r1), .val (.ref r2), .val (.int (0 : Int32)), .val (.ref b3), .val (.ref b5), .val (.int nm), .val (.int (0 : Int32)), .val (.long (((0 : Int32).toInt64) + (p2.toInt64))), .second, .unset, .unset, .unset, .unset, .unset] [(.long ((0 : Int32).toInt64)), (.long (((0 : Int32).toInt64) + (p2.toInt64)))])) _
          refine XS.lcmp X14.here hx rfl (hb hby at_153) rfl ?_
          show Steps p.tables e below (T14.setTop (mkF m 154 #[.val (.int p1), .val (.int p2), .val (.int p3), .val (.int p4), .val (.int p5), .val (.int p6), .val (.ref r1), .val (.ref r2), .val (.int (0 : Int32)), .val (.ref b3), .val (.ref b5), .val (.int nm), .val (.int (0 : Int32)), .val (.long (((0 : Int32).toInt64) + (p2.toInt64))), .second, .unset, .unset, .unset, .unset, .unset] [(.int (lcmpW (((0 : Int32).toInt64) + (p2.toInt64)) ((0 : Int32).toInt64)))])) _
          refine XS.ifYes X14.here hx rfl (pc0 := 154) (pc' := 161) rfl (hb hby at_154) rfl (XT.ll_lt_t ((own_idx (A := (0 : Int32)) (k := (0 : Int32)) (p := p2) (by decide) (by decide)).mp gi).2) (by decide) (by decide) ?_
          show Steps p.tables e below (T14.setTop (mkF m 161 #[.val (.int p1), .val (.int p2), .val (.int p3), .val (.int p4), .val (.int p5), .val (.int p6), .val (.ref r1), .val (.ref r2), .val (.int (0 : Int32)), .val (.ref b3), .val (.ref b5), .val (.int nm), .val (.int (0 : Int32)), .val (.long (((0 : Int32).toInt64) + (p2.toInt64))), .second, .unset, .unset, .unset, .unset, .unset] [])) _
          refine XS.iconst X14.here hx rfl (hb hby at_161) ?_
          show Steps p.tables e below (T14.setTop (mkF m 162 #[.val (.int p1), .val (.int p2), .val (.int p3), .val (.int p4), .val (.int p5), .val (.int p6), .val (.ref r1), .val (.ref r2), .val (.int (0 : Int32)), .val (.ref b3), .val (.ref b5), .val (.int nm), .val (.int (0 : Int32)), .val (.long (((0 : Int32).toInt64) + (p2.toInt64))), .second, .unset, .unset, .unset, .unset, .unset] [(.int (0 : Int32))])) _
          refine XS.istore X14.here hx rfl (hb hby at_162) rfl (l' := #[.val (.int p1), .val (.int p2), .val (.int p3), .val (.int p4), .val (.int p5), .val (.int p6), .val (.ref r1), .val (.ref r2), .val (.int (0 : Int32)), .val (.ref b3), .val (.ref b5), .val (.int nm), .val (.int (0 : Int32)), .val (.long (((0 : Int32).toInt64) + (p2.toInt64))), .second, .val (.int (0 : Int32)), .unset, .unset, .unset, .unset]) rfl ?_
          show Steps p.tables e below (T14.setTop (mkF m 164 #[.val (.int p1), .val (.int p2), .val (.int p3), .val (.int p4), .val (.int p5), .val (.int p6), .val (.ref r1), .val (.ref r2), .val (.int (0 : Int32)), .val (.ref b3), .val (.ref b5), .val (.int nm), .val (.int (0 : Int32)), .val (.long (((0 : Int32).toInt64) + (p2.toInt64))), .second, .val (.int (0 : Int32)), .unset, .unset, .unset, .unset] [])) _
          exact k
        exact hseg15 T14 _ _ _ (0 : Int32) (X14.more (by decide) (by decide)) Kq14 N hS hk hZ hown (fun _ => rfl) (fun qq_ => absurd gi qq_)
      · refine own_go (B := T14.setTop (mkF m 145 #[.val (.int p1), .val (.int p2), .val (.int p3), .val (.int p4), .val (.int p5), .val (.int p6), .val (.ref r1), .val (.ref r2), .val (.int (0 : Int32)), .val (.ref b3), .val (.ref b5), .val (.int nm), .val (.int (0 : Int32)), .val (.long (((0 : Int32).toInt64) + (p2.toInt64))), .second, .unset, .unset, .unset, .unset, .unset] [(.int (lcmpW (((0 : Int32).toInt64) + (p2.toInt64)) (0 : Int64)))])) (fun t k => ?_) ?_
        · show Steps p.tables e below (T14.setTop (mkF m 133 #[.val (.int p1), .val (.int p2), .val (.int p3), .val (.int p4), .val (.int p5), .val (.int p6), .val (.ref r1), .val (.ref r2), .val (.int (0 : Int32)), .val (.ref b3), .val (.ref b5), .val (.int nm), .val (.int (0 : Int32)), .unset, .unset, .unset, .unset, .unset, .unset, .unset] [])) _
          refine XS.iload X14.here hx rfl (hb hby at_133) rfl ?_
          show Steps p.tables e below (T14.setTop (mkF m 135 #[.val (.int p1), .val (.int p2), .val (.int p3), .val (.int p4), .val (.int p5), .val (.int p6), .val (.ref r1), .val (.ref r2), .val (.int (0 : Int32)), .val (.ref b3), .val (.ref b5), .val (.int nm), .val (.int (0 : Int32)), .unset, .unset, .unset, .unset, .unset, .unset, .unset] [(.int (0 : Int32))])) _
          refine XS.i2l X14.here hx rfl (hb hby at_135) rfl ?_
          show Steps p.tables e below (T14.setTop (mkF m 136 #[.val (.int p1), .val (.int p2), .val (.int p3), .val (.int p4), .val (.int p5), .val (.int p6), .val (.ref r1), .val (.ref r2), .val (.int (0 : Int32)), .val (.ref b3), .val (.ref b5), .val (.int nm), .val (.int (0 : Int32)), .unset, .unset, .unset, .unset, .unset, .unset, .unset] [(.long ((0 : Int32).toInt64))])) _
          refine XS.iloadN X14.here hx rfl (hb hby at_136) rfl ?_
          show Steps p.tables e below (T14.setTop (mkF m 137 #[.val (.int p1), .val (.int p2), .val (.int p3), .val (.int p4), .val (.int p5), .val (.int p6), .val (.ref r1), .val (.ref r2), .val (.int (0 : Int32)), .val (.ref b3), .val (.ref b5), .val (.int nm), .val (.int (0 : Int32)), .unset, .unset, .unset, .unset, .unset, .unset, .unset] [(.int p2), (.long ((0 : Int32).toInt64))])) _
          refine XS.i2l X14.here hx rfl (hb hby at_137) rfl ?_
          show Steps p.tables e below (T14.setTop (mkF m 138 #[.val (.int p1), .val (.int p2), .val (.int p3), .val (.int p4), .val (.int p5), .val (.int p6), .val (.ref r1), .val (.ref r2), .val (.int (0 : Int32)), .val (.ref b3), .val (.ref b5), .val (.int nm), .val (.int (0 : Int32)), .unset, .unset, .unset, .unset, .unset, .unset, .unset] [(.long (p2.toInt64)), (.long ((0 : Int32).toInt64))])) _
          refine XS.ladd X14.here hx rfl (hb hby at_138) rfl ?_
          show Steps p.tables e below (T14.setTop (mkF m 139 #[.val (.int p1), .val (.int p2), .val (.int p3), .val (.int p4), .val (.int p5), .val (.int p6), .val (.ref r1), .val (.ref r2), .val (.int (0 : Int32)), .val (.ref b3), .val (.ref b5), .val (.int nm), .val (.int (0 : Int32)), .unset, .unset, .unset, .unset, .unset, .unset, .unset] [(.long (((0 : Int32).toInt64) + (p2.toInt64)))])) _
          refine XS.lstore X14.here hx rfl (hb hby at_139) rfl (l' := #[.val (.int p1), .val (.int p2), .val (.int p3), .val (.int p4), .val (.int p5), .val (.int p6), .val (.ref r1), .val (.ref r2), .val (.int (0 : Int32)), .val (.ref b3), .val (.ref b5), .val (.int nm), .val (.int (0 : Int32)), .val (.long (((0 : Int32).toInt64) + (p2.toInt64))), .second, .unset, .unset, .unset, .unset, .unset]) rfl ?_
          show Steps p.tables e below (T14.setTop (mkF m 141 #[.val (.int p1), .val (.int p2), .val (.int p3), .val (.int p4), .val (.int p5), .val (.int p6), .val (.ref r1), .val (.ref r2), .val (.int (0 : Int32)), .val (.ref b3), .val (.ref b5), .val (.int nm), .val (.int (0 : Int32)), .val (.long (((0 : Int32).toInt64) + (p2.toInt64))), .second, .unset, .unset, .unset, .unset, .unset] [])) _
          refine XS.lload X14.here hx rfl (hb hby at_141) rfl ?_
          show Steps p.tables e below (T14.setTop (mkF m 143 #[.val (.int p1), .val (.int p2), .val (.int p3), .val (.int p4), .val (.int p5), .val (.int p6), .val (.ref r1), .val (.ref r2), .val (.int (0 : Int32)), .val (.ref b3), .val (.ref b5), .val (.int nm), .val (.int (0 : Int32)), .val (.long (((0 : Int32).toInt64) + (p2.toInt64))), .second, .unset, .unset, .unset, .unset, .unset] [(.long (((0 : Int32).toInt64) + (p2.toInt64)))])) _
          refine XS.lconst X14.here hx rfl (hb hby at_143) ?_
          show Steps p.tables e below (T14.setTop (mkF m 144 #[.val (.int p1), .val (.int p2), .val (.int p3), .val (.int p4), .val (.int p5), .val (.int p6), .val (.ref r1), .val (.ref r2), .val (.int (0 : Int32)), .val (.ref b3), .val (.ref b5), .val (.int nm), .val (.int (0 : Int32)), .val (.long (((0 : Int32).toInt64) + (p2.toInt64))), .second, .unset, .unset, .unset, .unset, .unset] [(.long (0 : Int64)), (.long (((0 : Int32).toInt64) + (p2.toInt64)))])) _
          refine XS.lcmp X14.here hx rfl (hb hby at_144) rfl ?_
          show Steps p.tables e below (T14.setTop (mkF m 145 #[.val (.int p1), .val (.int p2), .val (.int p3), .val (.int p4), .val (.int p5), .val (.int p6), .val (.ref r1), .val (.ref r2), .val (.int (0 : Int32)), .val (.ref b3), .val (.ref b5), .val (.int nm), .val (.int (0 : Int32)), .val (.long (((0 : Int32).toInt64) + (p2.toInt64))), .second, .unset, .unset, .unset, .unset, .unset] [(.int (lcmpW (((0 : Int32).toInt64) + (p2.toInt64)) (0 : Int64)))])) _
          exact k
        by_cases s145 : (((0 : Int32).toInt64) + (p2.toInt64)) < (0 : Int64)
        · refine own_go (B := T14.setTop (mkF m 164 #[.val (.int p1), .val (.int p2), .val (.int p3), .val (.int p4), .val (.int p5), .val (.int p6), .val (.ref r1), .val (.ref r2), .val (.int (0 : Int32)), .val (.ref b3), .val (.ref b5), .val (.int nm), .val (.int (0 : Int32)), .val (.long (((0 : Int32).toInt64) + (p2.toInt64))), .second, .val (.int (1 : Int32)), .unset, .unset, .unset, .unset] [])) (fun t k => ?_) ?_
          · show Steps p.tables e below (T14.setTop (mkF m 145 #[.val (.int p1), .val (.int p2), .val (.int p3), .val (.int p4), .val (.int p5), .val (.int p6), .val (.ref r1), .val (.ref r2), .val (.int (0 : Int32)), .val (.ref b3), .val (.ref b5), .val (.int nm), .val (.int (0 : Int32)), .val (.long (((0 : Int32).toInt64) + (p2.toInt64))), .second, .unset, .unset, .unset, .unset, .unset] [(.int (lcmpW (((0 : Int32).toInt64) + (p2.toInt64)) (0 : Int64)))])) _
            refine XS.ifYes X14.here hx rfl (pc0 := 145) (pc' := 157) rfl (hb hby at_145) rfl (XT.ll_lt_t s145) (by decide) (by decide) ?_
            show Steps p.tables e below (T14.setTop (mkF m 157 #[.val (.int p1), .val (.int p2), .val (.int p3), .val (.int p4), .val (.int p5), .val (.int p6), .val (.ref r1), .val (.ref r2), .val (.int (0 : Int32)), .val (.ref b3), .val (.ref b5), .val (.int nm), .val (.int (0 : Int32)), .val (.long (((0 : Int32).toInt64) + (p2.toInt64))), .second, .unset, .unset, .unset, .unset, .unset] [])) _
            refine XS.iconst X14.here hx rfl (hb hby at_157) ?_
            show Steps p.tables e below (T14.setTop (mkF m 158 #[.val (.int p1), .val (.int p2), .val (.int p3), .val (.int p4), .val (.int p5), .val (.int p6), .val (.ref r1), .val (.ref r2), .val (.int (0 : Int32)), .val (.ref b3), .val (.ref b5), .val (.int nm), .val (.int (0 : Int32)), .val (.long (((0 : Int32).toInt64) + (p2.toInt64))), .second, .unset, .unset, .unset, .unset, .unset] [(.int (1 : Int32))])) _
            refine XS.goto X14.here hx rfl (pc0 := 158) (pc' := 162) rfl (hb hby at_158) (by decide) (by decide) ?_
            show Steps p.tables e below (T14.setTop (mkF m 162 #[.val (.int p1), .val (.int p2), .val (.int p3), .val (.int p4), .val (.int p5), .val (.int p6), .val (.ref r1), .val (.ref r2), .val (.int (0 : Int32)), .val (.ref b3), .val (.ref b5), .val (.int nm), .val (.int (0 : Int32)), .val (.long (((0 : Int32).toInt64) + (p2.toInt64))), .second, .unset, .unset, .unset, .unset, .unset] [(.int (1 : Int32))])) _
            refine XS.istore X14.here hx rfl (hb hby at_162) rfl (l' := #[.val (.int p1), .val (.int p2), .val (.int p3), .val (.int p4), .val (.int p5), .val (.int p6), .val (.ref r1), .val (.ref r2), .val (.int (0 : Int32)), .val (.ref b3), .val (.ref b5), .val (.int nm), .val (.int (0 : Int32)), .val (.long (((0 : Int32).toInt64) + (p2.toInt64))), .second, .val (.int (1 : Int32)), .unset, .unset, .unset, .unset]) rfl ?_
            show Steps p.tables e below (T14.setTop (mkF m 164 #[.val (.int p1), .val (.int p2), .val (.int p3), .val (.int p4), .val (.int p5), .val (.int p6), .val (.ref r1), .val (.ref r2), .val (.int (0 : Int32)), .val (.ref b3), .val (.ref b5), .val (.int nm), .val (.int (0 : Int32)), .val (.long (((0 : Int32).toInt64) + (p2.toInt64))), .second, .val (.int (1 : Int32)), .unset, .unset, .unset, .unset] [])) _
            exact k
          exact hseg15 T14 _ _ _ (1 : Int32) (X14.more (by decide) (by decide)) Kq14 N hS hk hZ hown (fun qq_ => absurd qq_ gi) (fun _ => rfl)
        · refine own_go (B := T14.setTop (mkF m 164 #[.val (.int p1), .val (.int p2), .val (.int p3), .val (.int p4), .val (.int p5), .val (.int p6), .val (.ref r1), .val (.ref r2), .val (.int (0 : Int32)), .val (.ref b3), .val (.ref b5), .val (.int nm), .val (.int (0 : Int32)), .val (.long (((0 : Int32).toInt64) + (p2.toInt64))), .second, .val (.int (1 : Int32)), .unset, .unset, .unset, .unset] [])) (fun t k => ?_) ?_
          · show Steps p.tables e below (T14.setTop (mkF m 145 #[.val (.int p1), .val (.int p2), .val (.int p3), .val (.int p4), .val (.int p5), .val (.int p6), .val (.ref r1), .val (.ref r2), .val (.int (0 : Int32)), .val (.ref b3), .val (.ref b5), .val (.int nm), .val (.int (0 : Int32)), .val (.long (((0 : Int32).toInt64) + (p2.toInt64))), .second, .unset, .unset, .unset, .unset, .unset] [(.int (lcmpW (((0 : Int32).toInt64) + (p2.toInt64)) (0 : Int64)))])) _
            refine XS.ifNo X14.here hx rfl (hb hby at_145) rfl (XT.ll_lt_f s145) ?_
            show Steps p.tables e below (T14.setTop (mkF m 148 #[.val (.int p1), .val (.int p2), .val (.int p3), .val (.int p4), .val (.int p5), .val (.int p6), .val (.ref r1), .val (.ref r2), .val (.int (0 : Int32)), .val (.ref b3), .val (.ref b5), .val (.int nm), .val (.int (0 : Int32)), .val (.long (((0 : Int32).toInt64) + (p2.toInt64))), .second, .unset, .unset, .unset, .unset, .unset] [])) _
            refine XS.lload X14.here hx rfl (hb hby at_148) rfl ?_
            show Steps p.tables e below (T14.setTop (mkF m 150 #[.val (.int p1), .val (.int p2), .val (.int p3), .val (.int p4), .val (.int p5), .val (.int p6), .val (.ref r1), .val (.ref r2), .val (.int (0 : Int32)), .val (.ref b3), .val (.ref b5), .val (.int nm), .val (.int (0 : Int32)), .val (.long (((0 : Int32).toInt64) + (p2.toInt64))), .second, .unset, .unset, .unset, .unset, .unset] [(.long (((0 : Int32).toInt64) + (p2.toInt64)))])) _
            refine XS.iload X14.here hx rfl (hb hby at_150) rfl ?_
            show Steps p.tables e below (T14.setTop (mkF m 152 #[.val (.int p1), .val (.int p2), .val (.int p3), .val (.int p4), .val (.int p5), .val (.int p6), .val (.ref r1), .val (.ref r2), .val (.int (0 : Int32)), .val (.ref b3), .val (.ref b5), .val (.int nm), .val (.int (0 : Int32)), .val (.long (((0 : Int32).toInt64) + (p2.toInt64))), .second, .unset, .unset, .unset, .unset, .unset] [(.int (0 : Int32)), (.long (((0 : Int32).toInt64) + (p2.toInt64)))])) _
            refine XS.i2l X14.here hx rfl (hb hby at_152) rfl ?_
            show Steps p.tables e below (T14.setTop (mkF m 153 #[.val (.int p1), .val (.int p2), .val (.int p3), .val (.int p4), .val (.int p5), .val (.int p6), .val (.ref r1), .val (.ref r2), .val (.int (0 : Int32)), .val (.ref b3), .val (.ref b5), .val (.int nm), .val (.int (0 : Int32)), .val (.long (((0 : Int32).toInt64) + (p2.toInt64))), .second, .unset, .unset, .unset, .unset, .unset] [(.long ((0 : Int32).toInt64)), (.long (((0 : Int32).toInt64) + (p2.toInt64)))])) _
            refine XS.lcmp X14.here hx rfl (hb hby at_153) rfl ?_
            show Steps p.tables e below (T14.setTop (mkF m 154 #[.val (.int p1), .val (.int p2), .val (.int p3), .val (.int p4), .val (.int p5), .val (.int p6), .val (.ref r1), .val (.ref r2), .val (.int (0 : Int32)), .val (.ref b3), .val (.ref b5), .val (.int nm), .val (.int (0 : Int32)), .val (.long (((0 : Int32).toInt64) + (p2.toInt64))), .second, .unset, .unset, .unset, .unset, .unset] [(.int (lcmpW (((0 : Int32).toInt64) + (p2.toInt64)) ((0 : Int32).toInt64)))])) _
            refine XS.ifNo X14.here hx rfl (hb hby at_154) rfl (XT.ll_lt_f (fun z => gi ((own_idx (A := (0 : Int32)) (k := (0 : Int32)) (p := p2) (by decide) (by decide)).mpr ⟨s145, z⟩))) ?_
            show Steps p.tables e below (T14.setTop (mkF m 157 #[.val (.int p1), .val (.int p2), .val (.int p3), .val (.int p4), .val (.int p5), .val (.int p6), .val (.ref r1), .val (.ref r2), .val (.int (0 : Int32)), .val (.ref b3), .val (.ref b5), .val (.int nm), .val (.int (0 : Int32)), .val (.long (((0 : Int32).toInt64) + (p2.toInt64))), .second, .unset, .unset, .unset, .unset, .unset] [])) _
            refine XS.iconst X14.here hx rfl (hb hby at_157) ?_
            show Steps p.tables e below (T14.setTop (mkF m 158 #[.val (.int p1), .val (.int p2), .val (.int p3), .val (.int p4), .val (.int p5), .val (.int p6), .val (.ref r1), .val (.ref r2), .val (.int (0 : Int32)), .val (.ref b3), .val (.ref b5), .val (.int nm), .val (.int (0 : Int32)), .val (.long (((0 : Int32).toInt64) + (p2.toInt64))), .second, .unset, .unset, .unset, .unset, .unset] [(.int (1 : Int32))])) _
            refine XS.goto X14.here hx rfl (pc0 := 158) (pc' := 162) rfl (hb hby at_158) (by decide) (by decide) ?_
            show Steps p.tables e below (T14.setTop (mkF m 162 #[.val (.int p1), .val (.int p2), .val (.int p3), .val (.int p4), .val (.int p5), .val (.int p6), .val (.ref r1), .val (.ref r2), .val (.int (0 : Int32)), .val (.ref b3), .val (.ref b5), .val (.int nm), .val (.int (0 : Int32)), .val (.long (((0 : Int32).toInt64) + (p2.toInt64))), .second, .unset, .unset, .unset, .unset, .unset] [(.int (1 : Int32))])) _
            refine XS.istore X14.here hx rfl (hb hby at_162) rfl (l' := #[.val (.int p1), .val (.int p2), .val (.int p3), .val (.int p4), .val (.int p5), .val (.int p6), .val (.ref r1), .val (.ref r2), .val (.int (0 : Int32)), .val (.ref b3), .val (.ref b5), .val (.int nm), .val (.int (0 : Int32)), .val (.long (((0 : Int32).toInt64) + (p2.toInt64))), .second, .val (.int (1 : Int32)), .unset, .unset, .unset, .unset]) rfl ?_
            show Steps p.tables e below (T14.setTop (mkF m 164 #[.val (.int p1), .val (.int p2), .val (.int p3), .val (.int p4), .val (.int p5), .val (.int p6), .val (.ref r1), .val (.ref r2), .val (.int (0 : Int32)), .val (.ref b3), .val (.ref b5), .val (.int nm), .val (.int (0 : Int32)), .val (.long (((0 : Int32).toInt64) + (p2.toInt64))), .second, .val (.int (1 : Int32)), .unset, .unset, .unset, .unset] [])) _
            exact k
          exact hseg15 T14 _ _ _ (1 : Int32) (X14.more (by decide) (by decide)) Kq14 N hS hk hZ hown (fun qq_ => absurd qq_ gi) (fun _ => rfl)
    intro T15 vm15 kk15 L15 xe15 X15 e15 N hS hk hZ hown sc15_0 sc15_1
    refine own_go (B := T15.setTop (mkF m 167 #[.val (.int p1), .val (.int p2), .val (.int p3), .val (.int p4), .val (.int p5), .val (.int p6), .val (.ref r1), .val (.ref r2), .val (.int (0 : Int32)), .val (.ref b3), .val (.ref b5), .val (.int nm), .val (.int (0 : Int32)), .val (.long (((0 : Int32).toInt64) + (p2.toInt64))), .second, .val (.int xe15), .unset, .unset, .unset, .unset] [(.int p2), (.ref b5)])) (fun t k => ?_) ?_
    · show Steps p.tables e below (T15.setTop (mkF m 164 #[.val (.int p1), .val (.int p2), .val (.int p3), .val (.int p4), .val (.int p5), .val (.int p6), .val (.ref r1), .val (.ref r2), .val (.int (0 : Int32)), .val (.ref b3), .val (.ref b5), .val (.int nm), .val (.int (0 : Int32)), .val (.long (((0 : Int32).toInt64) + (p2.toInt64))), .second, .val (.int xe15), .unset, .unset, .unset, .unset] [])) _
      refine XS.aload X15.here hx rfl (hb hby at_164) rfl rfl ?_
      show Steps p.tables e below (T15.setTop (mkF m 166 #[.val (.int p1), .val (.int p2), .val (.int p3), .val (.int p4), .val (.int p5), .val (.int p6), .val (.ref r1), .val (.ref r2), .val (.int (0 : Int32)), .val (.ref b3), .val (.ref b5), .val (.int nm), .val (.int (0 : Int32)), .val (.long (((0 : Int32).toInt64) + (p2.toInt64))), .second, .val (.int xe15), .unset, .unset, .unset, .unset] [(.ref b5)])) _
      refine XS.iloadN X15.here hx rfl (hb hby at_166) rfl ?_
      show Steps p.tables e below (T15.setTop (mkF m 167 #[.val (.int p1), .val (.int p2), .val (.int p3), .val (.int p4), .val (.int p5), .val (.int p6), .val (.ref r1), .val (.ref r2), .val (.int (0 : Int32)), .val (.ref b3), .val (.ref b5), .val (.int nm), .val (.int (0 : Int32)), .val (.long (((0 : Int32).toInt64) + (p2.toInt64))), .second, .val (.int xe15), .unset, .unset, .unset, .unset] [(.int p2), (.ref b5)])) _
      exact k
    -- pc 167: com/example/nasute/nasute/sql/TokenCursor.peek
    obtain ⟨cq16, kq16, q16a, q16b, q16c⟩ := isOf hZ e15 A5
    obtain ⟨_, _, ⟨T16, L16, k16, n16⟩, -, X16, ⟨Lc16, hQ16, l16, y16, z16⟩, st16⟩ := X15.virtualBackUp hx (x := (⟨"com/example/nasute/nasute/sql/TokenCursorIsTextEndPinLaw", "peek", "(I)Lcom/example/nasute/nasute/sql/Token;"⟩ : MethodName)) (y := (⟨"com/example/nasute/nasute/sql/TokenCursor", "peek", "(I)Lcom/example/nasute/nasute/sql/Token;"⟩ : MethodName)) hown (mvT hZ (hw _ (own_g (i := 108) rfl))) (mvT hZ (hw _ (own_g (i := 109) rfl))) (mvT hZ (hw _ (own_g (i := 110) rfl))) (by decide) (mvT hZ (hw _ (own_g (i := 112) rfl))) (mvT hZ (hw _ (own_g (i := 111) rfl))) (backOf (W := 0) (rmPk0 l Z a0 hw [] b5 b3 en6 (0 : Int32) p2 T6.heap n0 O A5 Gq6_1 Gq6_2 Gq6_3 A3 Gq4_2) hZ (hw _ (own_g (i := 113) rfl)) (hw _ (own_g (i := 90) rfl)) (by decide) (by decide)) q16a q16c (g := (mkF m 167 #[.val (.int p1), .val (.int p2), .val (.int p3), .val (.int p4), .val (.int p5), .val (.int p6), .val (.ref r1), .val (.ref r2), .val (.int (0 : Int32)), .val (.ref b3), .val (.ref b5), .val (.int nm), .val (.int (0 : Int32)), .val (.long (((0 : Int32).toInt64) + (p2.toInt64))), .second, .val (.int xe15), .unset, .unset, .unset, .unset] [(.int p2), (.ref b5)])) rfl (by rw [hml]; rfl) (Steps.refl _) (argsL := [(.int p2)]) (rest := []) (lenOf pd_15 rfl) rfl (by show 2 * 0 + _ ≤ _; exact Nat.le_of_eq rfl) (hb hby at_167) (fun _ hWm => ⟨rfl, e15, (by decide : 11 + 0 ≤ _), (by decide : 32 + 0 ≤ _)⟩)
    dsimp only [Pt.U, Pt.locs, Pt.cells, Pt.slots] at X16 l16 y16 z16 st16 hQ16
    subst l16 y16 z16
    obtain ⟨r16, rfl, Nq16, Kq16, cq16_0, cq16_1⟩ := hQ16
    replace N := Fr.app N Nq16
    refine own_go (B := T16.setTop (mkF m 170 #[.val (.int p1), .val (.int p2), .val (.int p3), .val (.int p4), .val (.int p5), .val (.int p6), .val (.ref r1), .val (.ref r2), .val (.int (0 : Int32)), .val (.ref b3), .val (.ref b5), .val (.int nm), .val (.int (0 : Int32)), .val (.long (((0 : Int32).toInt64) + (p2.toInt64))), .second, .val (.int xe15), .unset, .unset, .unset, .unset] [(.ref r16)])) (fun t k => st16.trans k) ?_
    refine own_go (B := T16.setTop (mkF m 176 #[.val (.int p1), .val (.int p2), .val (.int p3), .val (.int p4), .val (.int p5), .val (.int p6), .val (.ref r1), .val (.ref r2), .val (.int (0 : Int32)), .val (.ref b3), .val (.ref b5), .val (.int nm), .val (.int (0 : Int32)), .val (.long (((0 : Int32).toInt64) + (p2.toInt64))), .second, .val (.int xe15), .val (.ref r16), .unset, .unset, .unset] [(.ref r16), (.ref b5)])) (fun t k => ?_) ?_
    · show Steps p.tables e below (T16.setTop (mkF m 170 #[.val (.int p1), .val (.int p2), .val (.int p3), .val (.int p4), .val (.int p5), .val (.int p6), .val (.ref r1), .val (.ref r2), .val (.int (0 : Int32)), .val (.ref b3), .val (.ref b5), .val (.int nm), .val (.int (0 : Int32)), .val (.long (((0 : Int32).toInt64) + (p2.toInt64))), .second, .val (.int xe15), .unset, .unset, .unset, .unset] [(.ref r16)])) _
      refine XS.astore X16.here hx rfl (hb hby at_170) rfl rfl (l' := #[.val (.int p1), .val (.int p2), .val (.int p3), .val (.int p4), .val (.int p5), .val (.int p6), .val (.ref r1), .val (.ref r2), .val (.int (0 : Int32)), .val (.ref b3), .val (.ref b5), .val (.int nm), .val (.int (0 : Int32)), .val (.long (((0 : Int32).toInt64) + (p2.toInt64))), .second, .val (.int xe15), .val (.ref r16), .unset, .unset, .unset]) rfl ?_
      show Steps p.tables e below (T16.setTop (mkF m 172 #[.val (.int p1), .val (.int p2), .val (.int p3), .val (.int p4), .val (.int p5), .val (.int p6), .val (.ref r1), .val (.ref r2), .val (.int (0 : Int32)), .val (.ref b3), .val (.ref b5), .val (.int nm), .val (.int (0 : Int32)), .val (.long (((0 : Int32).toInt64) + (p2.toInt64))), .second, .val (.int xe15), .val (.ref r16), .unset, .unset, .unset] [])) _
      refine XS.aload X16.here hx rfl (hb hby at_172) rfl rfl ?_
      show Steps p.tables e below (T16.setTop (mkF m 174 #[.val (.int p1), .val (.int p2), .val (.int p3), .val (.int p4), .val (.int p5), .val (.int p6), .val (.ref r1), .val (.ref r2), .val (.int (0 : Int32)), .val (.ref b3), .val (.ref b5), .val (.int nm), .val (.int (0 : Int32)), .val (.long (((0 : Int32).toInt64) + (p2.toInt64))), .second, .val (.int xe15), .val (.ref r16), .unset, .unset, .unset] [(.ref b5)])) _
      refine XS.aload X16.here hx rfl (hb hby at_174) rfl rfl ?_
      show Steps p.tables e below (T16.setTop (mkF m 176 #[.val (.int p1), .val (.int p2), .val (.int p3), .val (.int p4), .val (.int p5), .val (.int p6), .val (.ref r1), .val (.ref r2), .val (.int (0 : Int32)), .val (.ref b3), .val (.ref b5), .val (.int nm), .val (.int (0 : Int32)), .val (.long (((0 : Int32).toInt64) + (p2.toInt64))), .second, .val (.int xe15), .val (.ref r16), .unset, .unset, .unset] [(.ref r16), (.ref b5)])) _
      exact k
    -- pc 176: com/example/nasute/nasute/sql/TokenCursor.isTextEnd
    obtain ⟨cq17, kq17, q17a, q17b, q17c⟩ := isOf hZ Kq16 A5
    obtain ⟨_, _, ⟨T17, L17, k17, n17⟩, -, X17, ⟨Lc17, hQ17, l17, y17, z17⟩, st17⟩ := X16.virtualBackUp hx (x := (⟨"com/example/nasute/nasute/sql/TokenCursorIsTextEndPinLaw", "isTextEnd", "(Lcom/example/nasute/nasute/sql/Token;)Z"⟩ : MethodName)) (y := (⟨"com/example/nasute/nasute/sql/TokenCursor", "isTextEnd", "(Lcom/example/nasute/nasute/sql/Token;)Z"⟩ : MethodName)) hown (mvT hZ (hw _ (own_g (i := 127) rfl))) (mvT hZ (hw _ (own_g (i := 128) rfl))) (mvT hZ (hw _ (own_g (i := 129) rfl))) (by decide) (mvT hZ (hw _ (own_g (i := 131) rfl))) (mvT hZ (hw _ (own_g (i := 130) rfl))) (backOf (W := 0) (rmTex l Z a0 hw [] b5 r16 en6 T6.heap n0 O Gq6_2) hZ (hw _ (own_g (i := 132) rfl)) (hw _ (own_g (i := 90) rfl)) (by decide) (by decide)) q17a q17c (g := (mkF m 176 #[.val (.int p1), .val (.int p2), .val (.int p3), .val (.int p4), .val (.int p5), .val (.int p6), .val (.ref r1), .val (.ref r2), .val (.int (0 : Int32)), .val (.ref b3), .val (.ref b5), .val (.int nm), .val (.int (0 : Int32)), .val (.long (((0 : Int32).toInt64) + (p2.toInt64))), .second, .val (.int xe15), .val (.ref r16), .unset, .unset, .unset] [(.ref r16), (.ref b5)])) rfl (by rw [hml]; rfl) (Steps.refl _) (argsL := [(.ref r16)]) (rest := []) (lenOf pd_18 rfl) rfl (by show 2 * 0 + _ ≤ _; exact Nat.le_of_eq rfl) (hb hby at_176) (fun _ hWm => ⟨rfl, Kq16, (by decide : 11 + 0 ≤ _), (by decide : 32 + 0 ≤ _)⟩)
    dsimp only [Pt.U, Pt.locs, Pt.cells, Pt.slots] at X17 l17 y17 z17 st17 hQ17
    subst l17 y17 z17
    obtain ⟨vv17, rfl, Nq17, Kq17, cq17_0, cq17_1⟩ := hQ17
    replace N := Fr.app N Nq17
    refine own_go (B := T17.setTop (mkF m 179 #[.val (.int p1), .val (.int p2), .val (.int p3), .val (.int p4), .val (.int p5), .val (.int p6), .val (.ref r1), .val (.ref r2), .val (.int (0 : Int32)), .val (.ref b3), .val (.ref b5), .val (.int nm), .val (.int (0 : Int32)), .val (.long (((0 : Int32).toInt64) + (p2.toInt64))), .second, .val (.int xe15), .val (.ref r16), .unset, .unset, .unset] [(.int vv17)])) (fun t k => st17.trans k) ?_
    refine own_go (B := T17.setTop (mkF m 195 #[.val (.int p1), .val (.int p2), .val (.int p3), .val (.int p4), .val (.int p5), .val (.int p6), .val (.ref r1), .val (.ref r2), .val (.int (0 : Int32)), .val (.ref b3), .val (.ref b5), .val (.int nm), .val (.int (0 : Int32)), .val (.long (((0 : Int32).toInt64) + (p2.toInt64))), .second, .val (.int xe15), .val (.ref r16), .val (.int (1 : Int32)), .unset, .unset] [(.ref r1), (.ref b5)])) (fun t k => ?_) ?_
    · show Steps p.tables e below (T17.setTop (mkF m 179 #[.val (.int p1), .val (.int p2), .val (.int p3), .val (.int p4), .val (.int p5), .val (.int p6), .val (.ref r1), .val (.ref r2), .val (.int (0 : Int32)), .val (.ref b3), .val (.ref b5), .val (.int nm), .val (.int (0 : Int32)), .val (.long (((0 : Int32).toInt64) + (p2.toInt64))), .second, .val (.int xe15), .val (.ref r16), .unset, .unset, .unset] [(.int vv17)])) _
      refine XS.iload X17.here hx rfl (hb hby at_179) rfl ?_
      show Steps p.tables e below (T17.setTop (mkF m 181 #[.val (.int p1), .val (.int p2), .val (.int p3), .val (.int p4), .val (.int p5), .val (.int p6), .val (.ref r1), .val (.ref r2), .val (.int (0 : Int32)), .val (.ref b3), .val (.ref b5), .val (.int nm), .val (.int (0 : Int32)), .val (.long (((0 : Int32).toInt64) + (p2.toInt64))), .second, .val (.int xe15), .val (.ref r16), .unset, .unset, .unset] [(.int xe15), (.int vv17)])) _
      refine XS.icmpNo X17.here hx rfl (hb hby at_181) rfl (teq (own_eq3 cq16_0 cq16_1 cq17_0 cq17_1 sc15_0 sc15_1)).2 ?_
      show Steps p.tables e below (T17.setTop (mkF m 184 #[.val (.int p1), .val (.int p2), .val (.int p3), .val (.int p4), .val (.int p5), .val (.int p6), .val (.ref r1), .val (.ref r2), .val (.int (0 : Int32)), .val (.ref b3), .val (.ref b5), .val (.int nm), .val (.int (0 : Int32)), .val (.long (((0 : Int32).toInt64) + (p2.toInt64))), .second, .val (.int xe15), .val (.ref r16), .unset, .unset, .unset] [])) _
      refine XS.iconst X17.here hx rfl (hb hby at_184) ?_
      show Steps p.tables e below (T17.setTop (mkF m 185 #[.val (.int p1), .val (.int p2), .val (.int p3), .val (.int p4), .val (.int p5), .val (.int p6), .val (.ref r1), .val (.ref r2), .val (.int (0 : Int32)), .val (.ref b3), .val (.ref b5), .val (.int nm), .val (.int (0 : Int32)), .val (.long (((0 : Int32).toInt64) + (p2.toInt64))), .second, .val (.int xe15), .val (.ref r16), .unset, .unset, .unset] [(.int (1 : Int32))])) _
      refine XS.goto X17.here hx rfl (pc0 := 185) (pc' := 189) rfl (hb hby at_185) (by decide) (by decide) ?_
      show Steps p.tables e below (T17.setTop (mkF m 189 #[.val (.int p1), .val (.int p2), .val (.int p3), .val (.int p4), .val (.int p5), .val (.int p6), .val (.ref r1), .val (.ref r2), .val (.int (0 : Int32)), .val (.ref b3), .val (.ref b5), .val (.int nm), .val (.int (0 : Int32)), .val (.long (((0 : Int32).toInt64) + (p2.toInt64))), .second, .val (.int xe15), .val (.ref r16), .unset, .unset, .unset] [(.int (1 : Int32))])) _
      refine XS.istore X17.here hx rfl (hb hby at_189) rfl (l' := #[.val (.int p1), .val (.int p2), .val (.int p3), .val (.int p4), .val (.int p5), .val (.int p6), .val (.ref r1), .val (.ref r2), .val (.int (0 : Int32)), .val (.ref b3), .val (.ref b5), .val (.int nm), .val (.int (0 : Int32)), .val (.long (((0 : Int32).toInt64) + (p2.toInt64))), .second, .val (.int xe15), .val (.ref r16), .val (.int (1 : Int32)), .unset, .unset]) rfl ?_
      show Steps p.tables e below (T17.setTop (mkF m 191 #[.val (.int p1), .val (.int p2), .val (.int p3), .val (.int p4), .val (.int p5), .val (.int p6), .val (.ref r1), .val (.ref r2), .val (.int (0 : Int32)), .val (.ref b3), .val (.ref b5), .val (.int nm), .val (.int (0 : Int32)), .val (.long (((0 : Int32).toInt64) + (p2.toInt64))), .second, .val (.int xe15), .val (.ref r16), .val (.int (1 : Int32)), .unset, .unset] [])) _
      refine XS.aload X17.here hx rfl (hb hby at_191) rfl rfl ?_
      show Steps p.tables e below (T17.setTop (mkF m 193 #[.val (.int p1), .val (.int p2), .val (.int p3), .val (.int p4), .val (.int p5), .val (.int p6), .val (.ref r1), .val (.ref r2), .val (.int (0 : Int32)), .val (.ref b3), .val (.ref b5), .val (.int nm), .val (.int (0 : Int32)), .val (.long (((0 : Int32).toInt64) + (p2.toInt64))), .second, .val (.int xe15), .val (.ref r16), .val (.int (1 : Int32)), .unset, .unset] [(.ref b5)])) _
      refine XS.aload X17.here hx rfl (hb hby at_193) rfl rfl ?_
      show Steps p.tables e below (T17.setTop (mkF m 195 #[.val (.int p1), .val (.int p2), .val (.int p3), .val (.int p4), .val (.int p5), .val (.int p6), .val (.ref r1), .val (.ref r2), .val (.int (0 : Int32)), .val (.ref b3), .val (.ref b5), .val (.int nm), .val (.int (0 : Int32)), .val (.long (((0 : Int32).toInt64) + (p2.toInt64))), .second, .val (.int xe15), .val (.ref r16), .val (.int (1 : Int32)), .unset, .unset] [(.ref r1), (.ref b5)])) _
      exact k
    -- pc 195: com/example/nasute/nasute/sql/TokenCursor.isTextEnd
    obtain ⟨cq18, kq18, q18a, q18b, q18c⟩ := isOf hZ Kq17 A5
    obtain ⟨_, _, ⟨T18, L18, k18, n18⟩, -, X18, ⟨Lc18, hQ18, l18, y18, z18⟩, st18⟩ := X17.virtualBackUp hx (x := (⟨"com/example/nasute/nasute/sql/TokenCursorIsTextEndPinLaw", "isTextEnd", "(Lcom/example/nasute/nasute/sql/Token;)Z"⟩ : MethodName)) (y := (⟨"com/example/nasute/nasute/sql/TokenCursor", "isTextEnd", "(Lcom/example/nasute/nasute/sql/Token;)Z"⟩ : MethodName)) hown (mvT hZ (hw _ (own_g (i := 127) rfl))) (mvT hZ (hw _ (own_g (i := 128) rfl))) (mvT hZ (hw _ (own_g (i := 129) rfl))) (by decide) (mvT hZ (hw _ (own_g (i := 131) rfl))) (mvT hZ (hw _ (own_g (i := 130) rfl))) (backOf (W := 0) (rmTex l Z a0 hw [] b5 r1 en6 T6.heap n0 O Gq6_2) hZ (hw _ (own_g (i := 132) rfl)) (hw _ (own_g (i := 90) rfl)) (by decide) (by decide)) q18a q18c (g := (mkF m 195 #[.val (.int p1), .val (.int p2), .val (.int p3), .val (.int p4), .val (.int p5), .val (.int p6), .val (.ref r1), .val (.ref r2), .val (.int (0 : Int32)), .val (.ref b3), .val (.ref b5), .val (.int nm), .val (.int (0 : Int32)), .val (.long (((0 : Int32).toInt64) + (p2.toInt64))), .second, .val (.int xe15), .val (.ref r16), .val (.int (1 : Int32)), .unset, .unset] [(.ref r1), (.ref b5)])) rfl (by rw [hml]; rfl) (Steps.refl _) (argsL := [(.ref r1)]) (rest := []) (lenOf pd_18 rfl) rfl (by show 2 * 0 + _ ≤ _; exact Nat.le_of_eq rfl) (hb hby at_195) (fun _ hWm => ⟨rfl, Kq17, (by decide : 11 + 0 ≤ _), (by decide : 32 + 0 ≤ _)⟩)
    dsimp only [Pt.U, Pt.locs, Pt.cells, Pt.slots] at X18 l18 y18 z18 st18 hQ18
    subst l18 y18 z18
    obtain ⟨vv18, rfl, Nq18, Kq18, cq18_0, cq18_1⟩ := hQ18
    replace N := Fr.app N Nq18
    refine own_go (B := T18.setTop (mkF m 198 #[.val (.int p1), .val (.int p2), .val (.int p3), .val (.int p4), .val (.int p5), .val (.int p6), .val (.ref r1), .val (.ref r2), .val (.int (0 : Int32)), .val (.ref b3), .val (.ref b5), .val (.int nm), .val (.int (0 : Int32)), .val (.long (((0 : Int32).toInt64) + (p2.toInt64))), .second, .val (.int xe15), .val (.ref r16), .val (.int (1 : Int32)), .unset, .unset] [(.int vv18)])) (fun t k => st18.trans k) ?_
    refine own_go (B := T18.setTop (mkF m 205 #[.val (.int p1), .val (.int p2), .val (.int p3), .val (.int p4), .val (.int p5), .val (.int p6), .val (.ref r1), .val (.ref r2), .val (.int (0 : Int32)), .val (.ref b3), .val (.ref b5), .val (.int nm), .val (.int (0 : Int32)), .val (.long (((0 : Int32).toInt64) + (p2.toInt64))), .second, .val (.int xe15), .val (.ref r16), .val (.int (1 : Int32)), .unset, .unset] [(.ref r2), (.ref b5)])) (fun t k => ?_) ?_
    · show Steps p.tables e below (T18.setTop (mkF m 198 #[.val (.int p1), .val (.int p2), .val (.int p3), .val (.int p4), .val (.int p5), .val (.int p6), .val (.ref r1), .val (.ref r2), .val (.int (0 : Int32)), .val (.ref b3), .val (.ref b5), .val (.int nm), .val (.int (0 : Int32)), .val (.long (((0 : Int32).toInt64) + (p2.toInt64))), .second, .val (.int xe15), .val (.ref r16), .val (.int (1 : Int32)), .unset, .unset] [(.int vv18)])) _
      refine XS.ifNo X18.here hx rfl (hb hby at_198) rfl ((if0 _ _).trans (teq (cq18_1 (Nat.ne_of_lt lt_r1_en6))).2) ?_
      show Steps p.tables e below (T18.setTop (mkF m 201 #[.val (.int p1), .val (.int p2), .val (.int p3), .val (.int p4), .val (.int p5), .val (.int p6), .val (.ref r1), .val (.ref r2), .val (.int (0 : Int32)), .val (.ref b3), .val (.ref b5), .val (.int nm), .val (.int (0 : Int32)), .val (.long (((0 : Int32).toInt64) + (p2.toInt64))), .second, .val (.int xe15), .val (.ref r16), .val (.int (1 : Int32)), .unset, .unset] [])) _
      refine XS.aload X18.here hx rfl (hb hby at_201) rfl rfl ?_
      show Steps p.tables e below (T18.setTop (mkF m 203 #[.val (.int p1), .val (.int p2), .val (.int p3), .val (.int p4), .val (.int p5), .val (.int p6), .val (.ref r1), .val (.ref r2), .val (.int (0 : Int32)), .val (.ref b3), .val (.ref b5), .val (.int nm), .val (.int (0 : Int32)), .val (.long (((0 : Int32).toInt64) + (p2.toInt64))), .second, .val (.int xe15), .val (.ref r16), .val (.int (1 : Int32)), .unset, .unset] [(.ref b5)])) _
      refine XS.aload X18.here hx rfl (hb hby at_203) rfl rfl ?_
      show Steps p.tables e below (T18.setTop (mkF m 205 #[.val (.int p1), .val (.int p2), .val (.int p3), .val (.int p4), .val (.int p5), .val (.int p6), .val (.ref r1), .val (.ref r2), .val (.int (0 : Int32)), .val (.ref b3), .val (.ref b5), .val (.int nm), .val (.int (0 : Int32)), .val (.long (((0 : Int32).toInt64) + (p2.toInt64))), .second, .val (.int xe15), .val (.ref r16), .val (.int (1 : Int32)), .unset, .unset] [(.ref r2), (.ref b5)])) _
      exact k
    -- pc 205: com/example/nasute/nasute/sql/TokenCursor.isTextEnd
    obtain ⟨cq19, kq19, q19a, q19b, q19c⟩ := isOf hZ Kq18 A5
    obtain ⟨_, _, ⟨T19, L19, k19, n19⟩, -, X19, ⟨Lc19, hQ19, l19, y19, z19⟩, st19⟩ := X18.virtualBackUp hx (x := (⟨"com/example/nasute/nasute/sql/TokenCursorIsTextEndPinLaw", "isTextEnd", "(Lcom/example/nasute/nasute/sql/Token;)Z"⟩ : MethodName)) (y := (⟨"com/example/nasute/nasute/sql/TokenCursor", "isTextEnd", "(Lcom/example/nasute/nasute/sql/Token;)Z"⟩ : MethodName)) hown (mvT hZ (hw _ (own_g (i := 127) rfl))) (mvT hZ (hw _ (own_g (i := 128) rfl))) (mvT hZ (hw _ (own_g (i := 129) rfl))) (by decide) (mvT hZ (hw _ (own_g (i := 131) rfl))) (mvT hZ (hw _ (own_g (i := 130) rfl))) (backOf (W := 0) (rmTex l Z a0 hw [] b5 r2 en6 T6.heap n0 O Gq6_2) hZ (hw _ (own_g (i := 132) rfl)) (hw _ (own_g (i := 90) rfl)) (by decide) (by decide)) q19a q19c (g := (mkF m 205 #[.val (.int p1), .val (.int p2), .val (.int p3), .val (.int p4), .val (.int p5), .val (.int p6), .val (.ref r1), .val (.ref r2), .val (.int (0 : Int32)), .val (.ref b3), .val (.ref b5), .val (.int nm), .val (.int (0 : Int32)), .val (.long (((0 : Int32).toInt64) + (p2.toInt64))), .second, .val (.int xe15), .val (.ref r16), .val (.int (1 : Int32)), .unset, .unset] [(.ref r2), (.ref b5)])) rfl (by rw [hml]; rfl) (Steps.refl _) (argsL := [(.ref r2)]) (rest := []) (lenOf pd_18 rfl) rfl (by show 2 * 0 + _ ≤ _; exact Nat.le_of_eq rfl) (hb hby at_205) (fun _ hWm => ⟨rfl, Kq18, (by decide : 11 + 0 ≤ _), (by decide : 32 + 0 ≤ _)⟩)
    dsimp only [Pt.U, Pt.locs, Pt.cells, Pt.slots] at X19 l19 y19 z19 st19 hQ19
    subst l19 y19 z19
    obtain ⟨vv19, rfl, Nq19, Kq19, cq19_0, cq19_1⟩ := hQ19
    replace N := Fr.app N Nq19
    refine own_go (B := T19.setTop (mkF m 208 #[.val (.int p1), .val (.int p2), .val (.int p3), .val (.int p4), .val (.int p5), .val (.int p6), .val (.ref r1), .val (.ref r2), .val (.int (0 : Int32)), .val (.ref b3), .val (.ref b5), .val (.int nm), .val (.int (0 : Int32)), .val (.long (((0 : Int32).toInt64) + (p2.toInt64))), .second, .val (.int xe15), .val (.ref r16), .val (.int (1 : Int32)), .unset, .unset] [(.int vv19)])) (fun t k => st19.trans k) ?_
    refine own_go (B := T19.setTop (mkF m 227 #[.val (.int p1), .val (.int p2), .val (.int p3), .val (.int p4), .val (.int p5), .val (.int p6), .val (.ref r1), .val (.ref r2), .val (.int (0 : Int32)), .val (.ref b3), .val (.ref b5), .val (.int nm), .val (.int (0 : Int32)), .val (.long (((0 : Int32).toInt64) + (p2.toInt64))), .second, .val (.int xe15), .val (.ref r16), .val (.int (1 : Int32)), .val (.int (1 : Int32)), .unset] [(.int ((0 : Int32) - (0 : Int32))), (.ref b5), (.ref b5)])) (fun t k => ?_) ?_
    · show Steps p.tables e below (T19.setTop (mkF m 208 #[.val (.int p1), .val (.int p2), .val (.int p3), .val (.int p4), .val (.int p5), .val (.int p6), .val (.ref r1), .val (.ref r2), .val (.int (0 : Int32)), .val (.ref b3), .val (.ref b5), .val (.int nm), .val (.int (0 : Int32)), .val (.long (((0 : Int32).toInt64) + (p2.toInt64))), .second, .val (.int xe15), .val (.ref r16), .val (.int (1 : Int32)), .unset, .unset] [(.int vv19)])) _
      refine XS.ifNo X19.here hx rfl (hb hby at_208) rfl ((if0 _ _).trans (teq (cq19_1 (Nat.ne_of_lt lt_r2_en6))).2) ?_
      show Steps p.tables e below (T19.setTop (mkF m 211 #[.val (.int p1), .val (.int p2), .val (.int p3), .val (.int p4), .val (.int p5), .val (.int p6), .val (.ref r1), .val (.ref r2), .val (.int (0 : Int32)), .val (.ref b3), .val (.ref b5), .val (.int nm), .val (.int (0 : Int32)), .val (.long (((0 : Int32).toInt64) + (p2.toInt64))), .second, .val (.int xe15), .val (.ref r16), .val (.int (1 : Int32)), .unset, .unset] [])) _
      refine XS.iconst X19.here hx rfl (hb hby at_211) ?_
      show Steps p.tables e below (T19.setTop (mkF m 212 #[.val (.int p1), .val (.int p2), .val (.int p3), .val (.int p4), .val (.int p5), .val (.int p6), .val (.ref r1), .val (.ref r2), .val (.int (0 : Int32)), .val (.ref b3), .val (.ref b5), .val (.int nm), .val (.int (0 : Int32)), .val (.long (((0 : Int32).toInt64) + (p2.toInt64))), .second, .val (.int xe15), .val (.ref r16), .val (.int (1 : Int32)), .unset, .unset] [(.int (1 : Int32))])) _
      refine XS.goto X19.here hx rfl (pc0 := 212) (pc' := 216) rfl (hb hby at_212) (by decide) (by decide) ?_
      show Steps p.tables e below (T19.setTop (mkF m 216 #[.val (.int p1), .val (.int p2), .val (.int p3), .val (.int p4), .val (.int p5), .val (.int p6), .val (.ref r1), .val (.ref r2), .val (.int (0 : Int32)), .val (.ref b3), .val (.ref b5), .val (.int nm), .val (.int (0 : Int32)), .val (.long (((0 : Int32).toInt64) + (p2.toInt64))), .second, .val (.int xe15), .val (.ref r16), .val (.int (1 : Int32)), .unset, .unset] [(.int (1 : Int32))])) _
      refine XS.istore X19.here hx rfl (hb hby at_216) rfl (l' := #[.val (.int p1), .val (.int p2), .val (.int p3), .val (.int p4), .val (.int p5), .val (.int p6), .val (.ref r1), .val (.ref r2), .val (.int (0 : Int32)), .val (.ref b3), .val (.ref b5), .val (.int nm), .val (.int (0 : Int32)), .val (.long (((0 : Int32).toInt64) + (p2.toInt64))), .second, .val (.int xe15), .val (.ref r16), .val (.int (1 : Int32)), .val (.int (1 : Int32)), .unset]) rfl ?_
      show Steps p.tables e below (T19.setTop (mkF m 218 #[.val (.int p1), .val (.int p2), .val (.int p3), .val (.int p4), .val (.int p5), .val (.int p6), .val (.ref r1), .val (.ref r2), .val (.int (0 : Int32)), .val (.ref b3), .val (.ref b5), .val (.int nm), .val (.int (0 : Int32)), .val (.long (((0 : Int32).toInt64) + (p2.toInt64))), .second, .val (.int xe15), .val (.ref r16), .val (.int (1 : Int32)), .val (.int (1 : Int32)), .unset] [])) _
      refine XS.aload X19.here hx rfl (hb hby at_218) rfl rfl ?_
      show Steps p.tables e below (T19.setTop (mkF m 220 #[.val (.int p1), .val (.int p2), .val (.int p3), .val (.int p4), .val (.int p5), .val (.int p6), .val (.ref r1), .val (.ref r2), .val (.int (0 : Int32)), .val (.ref b3), .val (.ref b5), .val (.int nm), .val (.int (0 : Int32)), .val (.long (((0 : Int32).toInt64) + (p2.toInt64))), .second, .val (.int xe15), .val (.ref r16), .val (.int (1 : Int32)), .val (.int (1 : Int32)), .unset] [(.ref b5)])) _
      refine XS.aload X19.here hx rfl (hb hby at_220) rfl rfl ?_
      show Steps p.tables e below (T19.setTop (mkF m 222 #[.val (.int p1), .val (.int p2), .val (.int p3), .val (.int p4), .val (.int p5), .val (.int p6), .val (.ref r1), .val (.ref r2), .val (.int (0 : Int32)), .val (.ref b3), .val (.ref b5), .val (.int nm), .val (.int (0 : Int32)), .val (.long (((0 : Int32).toInt64) + (p2.toInt64))), .second, .val (.int xe15), .val (.ref r16), .val (.int (1 : Int32)), .val (.int (1 : Int32)), .unset] [(.ref b5), (.ref b5)])) _
      refine XS.iload X19.here hx rfl (hb hby at_222) rfl ?_
      show Steps p.tables e below (T19.setTop (mkF m 224 #[.val (.int p1), .val (.int p2), .val (.int p3), .val (.int p4), .val (.int p5), .val (.int p6), .val (.ref r1), .val (.ref r2), .val (.int (0 : Int32)), .val (.ref b3), .val (.ref b5), .val (.int nm), .val (.int (0 : Int32)), .val (.long (((0 : Int32).toInt64) + (p2.toInt64))), .second, .val (.int xe15), .val (.ref r16), .val (.int (1 : Int32)), .val (.int (1 : Int32)), .unset] [(.int (0 : Int32)), (.ref b5), (.ref b5)])) _
      refine XS.iload X19.here hx rfl (hb hby at_224) rfl ?_
      show Steps p.tables e below (T19.setTop (mkF m 226 #[.val (.int p1), .val (.int p2), .val (.int p3), .val (.int p4), .val (.int p5), .val (.int p6), .val (.ref r1), .val (.ref r2), .val (.int (0 : Int32)), .val (.ref b3), .val (.ref b5), .val (.int nm), .val (.int (0 : Int32)), .val (.long (((0 : Int32).toInt64) + (p2.toInt64))), .second, .val (.int xe15), .val (.ref r16), .val (.int (1 : Int32)), .val (.int (1 : Int32)), .unset] [(.int (0 : Int32)), (.int (0 : Int32)), (.ref b5), (.ref b5)])) _
      refine XS.isub X19.here hx rfl (hb hby at_226) rfl ?_
      show Steps p.tables e below (T19.setTop (mkF m 227 #[.val (.int p1), .val (.int p2), .val (.int p3), .val (.int p4), .val (.int p5), .val (.int p6), .val (.ref r1), .val (.ref r2), .val (.int (0 : Int32)), .val (.ref b3), .val (.ref b5), .val (.int nm), .val (.int (0 : Int32)), .val (.long (((0 : Int32).toInt64) + (p2.toInt64))), .second, .val (.int xe15), .val (.ref r16), .val (.int (1 : Int32)), .val (.int (1 : Int32)), .unset] [(.int ((0 : Int32) - (0 : Int32))), (.ref b5), (.ref b5)])) _
      exact k
    -- pc 227: com/example/nasute/nasute/sql/TokenCursor.peek
    obtain ⟨cq20, kq20, q20a, q20b, q20c⟩ := isOf hZ Kq19 A5
    obtain ⟨_, _, ⟨T20, L20, k20, n20⟩, -, X20, ⟨Lc20, hQ20, l20, y20, z20⟩, st20⟩ := X19.virtualBackUp hx (x := (⟨"com/example/nasute/nasute/sql/TokenCursorIsTextEndPinLaw", "peek", "(I)Lcom/example/nasute/nasute/sql/Token;"⟩ : MethodName)) (y := (⟨"com/example/nasute/nasute/sql/TokenCursor", "peek", "(I)Lcom/example/nasute/nasute/sql/Token;"⟩ : MethodName)) hown (mvT hZ (hw _ (own_g (i := 108) rfl))) (mvT hZ (hw _ (own_g (i := 109) rfl))) (mvT hZ (hw _ (own_g (i := 110) rfl))) (by decide) (mvT hZ (hw _ (own_g (i := 112) rfl))) (mvT hZ (hw _ (own_g (i := 111) rfl))) (backOf (W := 1) (rmPk0 l Z a0 hw [] b5 b3 en6 (0 : Int32) ((0 : Int32) - (0 : Int32)) T6.heap n0 O A5 Gq6_1 Gq6_2 Gq6_3 A3 Gq4_2) hZ (hw _ (own_g (i := 113) rfl)) (hw _ (own_g (i := 90) rfl)) (by decide) (by decide)) q20a q20c (g := (mkF m 227 #[.val (.int p1), .val (.int p2), .val (.int p3), .val (.int p4), .val (.int p5), .val (.int p6), .val (.ref r1), .val (.ref r2), .val (.int (0 : Int32)), .val (.ref b3), .val (.ref b5), .val (.int nm), .val (.int (0 : Int32)), .val (.long (((0 : Int32).toInt64) + (p2.toInt64))), .second, .val (.int xe15), .val (.ref r16), .val (.int (1 : Int32)), .val (.int (1 : Int32)), .unset] [(.int ((0 : Int32) - (0 : Int32))), (.ref b5), (.ref b5)])) rfl (by rw [hml]; rfl) (Steps.refl _) (argsL := [(.int ((0 : Int32) - (0 : Int32)))]) (rest := [(.ref b5)]) (lenOf pd_15 rfl) rfl (by show 2 * 0 + _ ≤ _; exact Nat.le_of_eq rfl) (hb hby at_227) (fun _ hWm => ⟨rfl, Kq19, (by decide : 11 + 0 ≤ _), (by decide : 32 + 0 ≤ _)⟩)
    dsimp only [Pt.U, Pt.locs, Pt.cells, Pt.slots] at X20 l20 y20 z20 st20 hQ20
    subst l20 y20 z20
    obtain ⟨r20, rfl, Nq20, Kq20, cq20_0, cq20_1⟩ := hQ20
    replace N := Fr.app N Nq20
    refine own_go (B := T20.setTop (mkF m 230 #[.val (.int p1), .val (.int p2), .val (.int p3), .val (.int p4), .val (.int p5), .val (.int p6), .val (.ref r1), .val (.ref r2), .val (.int (0 : Int32)), .val (.ref b3), .val (.ref b5), .val (.int nm), .val (.int (0 : Int32)), .val (.long (((0 : Int32).toInt64) + (p2.toInt64))), .second, .val (.int xe15), .val (.ref r16), .val (.int (1 : Int32)), .val (.int (1 : Int32)), .unset] [(.ref r20), (.ref b5)])) (fun t k => st20.trans k) ?_
    -- pc 230: com/example/nasute/nasute/sql/TokenCursor.isTextEnd
    obtain ⟨cq21, kq21, q21a, q21b, q21c⟩ := isOf hZ Kq20 A5
    obtain ⟨_, _, ⟨T21, L21, k21, n21⟩, -, X21, ⟨Lc21, hQ21, l21, y21, z21⟩, st21⟩ := X20.virtualBackUp hx (x := (⟨"com/example/nasute/nasute/sql/TokenCursorIsTextEndPinLaw", "isTextEnd", "(Lcom/example/nasute/nasute/sql/Token;)Z"⟩ : MethodName)) (y := (⟨"com/example/nasute/nasute/sql/TokenCursor", "isTextEnd", "(Lcom/example/nasute/nasute/sql/Token;)Z"⟩ : MethodName)) hown (mvT hZ (hw _ (own_g (i := 127) rfl))) (mvT hZ (hw _ (own_g (i := 128) rfl))) (mvT hZ (hw _ (own_g (i := 129) rfl))) (by decide) (mvT hZ (hw _ (own_g (i := 131) rfl))) (mvT hZ (hw _ (own_g (i := 130) rfl))) (backOf (W := 0) (rmTex l Z a0 hw [] b5 r20 en6 T6.heap n0 O Gq6_2) hZ (hw _ (own_g (i := 132) rfl)) (hw _ (own_g (i := 90) rfl)) (by decide) (by decide)) q21a q21c (g := (mkF m 230 #[.val (.int p1), .val (.int p2), .val (.int p3), .val (.int p4), .val (.int p5), .val (.int p6), .val (.ref r1), .val (.ref r2), .val (.int (0 : Int32)), .val (.ref b3), .val (.ref b5), .val (.int nm), .val (.int (0 : Int32)), .val (.long (((0 : Int32).toInt64) + (p2.toInt64))), .second, .val (.int xe15), .val (.ref r16), .val (.int (1 : Int32)), .val (.int (1 : Int32)), .unset] [(.ref r20), (.ref b5)])) rfl (by rw [hml]; rfl) (Steps.refl _) (argsL := [(.ref r20)]) (rest := []) (lenOf pd_18 rfl) rfl (by show 2 * 0 + _ ≤ _; exact Nat.le_of_eq rfl) (hb hby at_230) (fun _ hWm => ⟨rfl, Kq20, (by decide : 11 + 0 ≤ _), (by decide : 32 + 0 ≤ _)⟩)
    dsimp only [Pt.U, Pt.locs, Pt.cells, Pt.slots] at X21 l21 y21 z21 st21 hQ21
    subst l21 y21 z21
    obtain ⟨vv21, rfl, Nq21, Kq21, cq21_0, cq21_1⟩ := hQ21
    replace N := Fr.app N Nq21
    refine own_go (B := T21.setTop (mkF m 233 #[.val (.int p1), .val (.int p2), .val (.int p3), .val (.int p4), .val (.int p5), .val (.int p6), .val (.ref r1), .val (.ref r2), .val (.int (0 : Int32)), .val (.ref b3), .val (.ref b5), .val (.int nm), .val (.int (0 : Int32)), .val (.long (((0 : Int32).toInt64) + (p2.toInt64))), .second, .val (.int xe15), .val (.ref r16), .val (.int (1 : Int32)), .val (.int (1 : Int32)), .unset] [(.int vv21)])) (fun t k => st21.trans k) ?_
    refine own_go (B := T21.setTop (mkF m 255 #[.val (.int p1), .val (.int p2), .val (.int p3), .val (.int p4), .val (.int p5), .val (.int p6), .val (.ref r1), .val (.ref r2), .val (.int (0 : Int32)), .val (.ref b3), .val (.ref b5), .val (.int nm), .val (.int (0 : Int32)), .val (.long (((0 : Int32).toInt64) + (p2.toInt64))), .second, .val (.int xe15), .val (.ref r16), .val (.int (1 : Int32)), .val (.int (1 : Int32)), .val (.int vv21)] [(.int (1 : Int32))])) (fun t k => ?_) ?_
    · show Steps p.tables e below (T21.setTop (mkF m 233 #[.val (.int p1), .val (.int p2), .val (.int p3), .val (.int p4), .val (.int p5), .val (.int p6), .val (.ref r1), .val (.ref r2), .val (.int (0 : Int32)), .val (.ref b3), .val (.ref b5), .val (.int nm), .val (.int (0 : Int32)), .val (.long (((0 : Int32).toInt64) + (p2.toInt64))), .second, .val (.int xe15), .val (.ref r16), .val (.int (1 : Int32)), .val (.int (1 : Int32)), .unset] [(.int vv21)])) _
      refine XS.istore X21.here hx rfl (hb hby at_233) rfl (l' := #[.val (.int p1), .val (.int p2), .val (.int p3), .val (.int p4), .val (.int p5), .val (.int p6), .val (.ref r1), .val (.ref r2), .val (.int (0 : Int32)), .val (.ref b3), .val (.ref b5), .val (.int nm), .val (.int (0 : Int32)), .val (.long (((0 : Int32).toInt64) + (p2.toInt64))), .second, .val (.int xe15), .val (.ref r16), .val (.int (1 : Int32)), .val (.int (1 : Int32)), .val (.int vv21)]) rfl ?_
      show Steps p.tables e below (T21.setTop (mkF m 235 #[.val (.int p1), .val (.int p2), .val (.int p3), .val (.int p4), .val (.int p5), .val (.int p6), .val (.ref r1), .val (.ref r2), .val (.int (0 : Int32)), .val (.ref b3), .val (.ref b5), .val (.int nm), .val (.int (0 : Int32)), .val (.long (((0 : Int32).toInt64) + (p2.toInt64))), .second, .val (.int xe15), .val (.ref r16), .val (.int (1 : Int32)), .val (.int (1 : Int32)), .val (.int vv21)] [])) _
      refine XS.iload X21.here hx rfl (hb hby at_235) rfl ?_
      show Steps p.tables e below (T21.setTop (mkF m 237 #[.val (.int p1), .val (.int p2), .val (.int p3), .val (.int p4), .val (.int p5), .val (.int p6), .val (.ref r1), .val (.ref r2), .val (.int (0 : Int32)), .val (.ref b3), .val (.ref b5), .val (.int nm), .val (.int (0 : Int32)), .val (.long (((0 : Int32).toInt64) + (p2.toInt64))), .second, .val (.int xe15), .val (.ref r16), .val (.int (1 : Int32)), .val (.int (1 : Int32)), .val (.int vv21)] [(.int (1 : Int32))])) _
      refine XS.ifNo X21.here hx rfl (hb hby at_237) rfl ((if0 _ _).trans (feq (by decide)).1) ?_
      show Steps p.tables e below (T21.setTop (mkF m 240 #[.val (.int p1), .val (.int p2), .val (.int p3), .val (.int p4), .val (.int p5), .val (.int p6), .val (.ref r1), .val (.ref r2), .val (.int (0 : Int32)), .val (.ref b3), .val (.ref b5), .val (.int nm), .val (.int (0 : Int32)), .val (.long (((0 : Int32).toInt64) + (p2.toInt64))), .second, .val (.int xe15), .val (.ref r16), .val (.int (1 : Int32)), .val (.int (1 : Int32)), .val (.int vv21)] [])) _
      refine XS.iload X21.here hx rfl (hb hby at_240) rfl ?_
      show Steps p.tables e below (T21.setTop (mkF m 242 #[.val (.int p1), .val (.int p2), .val (.int p3), .val (.int p4), .val (.int p5), .val (.int p6), .val (.ref r1), .val (.ref r2), .val (.int (0 : Int32)), .val (.ref b3), .val (.ref b5), .val (.int nm), .val (.int (0 : Int32)), .val (.long (((0 : Int32).toInt64) + (p2.toInt64))), .second, .val (.int xe15), .val (.ref r16), .val (.int (1 : Int32)), .val (.int (1 : Int32)), .val (.int vv21)] [(.int (1 : Int32))])) _
      refine XS.ifNo X21.here hx rfl (hb hby at_242) rfl ((if0 _ _).trans (feq (by decide)).1) ?_
      show Steps p.tables e below (T21.setTop (mkF m 245 #[.val (.int p1), .val (.int p2), .val (.int p3), .val (.int p4), .val (.int p5), .val (.int p6), .val (.ref r1), .val (.ref r2), .val (.int (0 : Int32)), .val (.ref b3), .val (.ref b5), .val (.int nm), .val (.int (0 : Int32)), .val (.long (((0 : Int32).toInt64) + (p2.toInt64))), .second, .val (.int xe15), .val (.ref r16), .val (.int (1 : Int32)), .val (.int (1 : Int32)), .val (.int vv21)] [])) _
      refine XS.iload X21.here hx rfl (hb hby at_245) rfl ?_
      show Steps p.tables e below (T21.setTop (mkF m 247 #[.val (.int p1), .val (.int p2), .val (.int p3), .val (.int p4), .val (.int p5), .val (.int p6), .val (.ref r1), .val (.ref r2), .val (.int (0 : Int32)), .val (.ref b3), .val (.ref b5), .val (.int nm), .val (.int (0 : Int32)), .val (.long (((0 : Int32).toInt64) + (p2.toInt64))), .second, .val (.int xe15), .val (.ref r16), .val (.int (1 : Int32)), .val (.int (1 : Int32)), .val (.int vv21)] [(.int vv21)])) _
      refine XS.ifNo X21.here hx rfl (hb hby at_247) rfl ((if0 _ _).trans (feq (fun z => absurd ((cq21_0 (cq20_1 own_out)).symm.trans z) (by decide))).1) ?_
      show Steps p.tables e below (T21.setTop (mkF m 250 #[.val (.int p1), .val (.int p2), .val (.int p3), .val (.int p4), .val (.int p5), .val (.int p6), .val (.ref r1), .val (.ref r2), .val (.int (0 : Int32)), .val (.ref b3), .val (.ref b5), .val (.int nm), .val (.int (0 : Int32)), .val (.long (((0 : Int32).toInt64) + (p2.toInt64))), .second, .val (.int xe15), .val (.ref r16), .val (.int (1 : Int32)), .val (.int (1 : Int32)), .val (.int vv21)] [])) _
      refine XS.iconst X21.here hx rfl (hb hby at_250) ?_
      show Steps p.tables e below (T21.setTop (mkF m 251 #[.val (.int p1), .val (.int p2), .val (.int p3), .val (.int p4), .val (.int p5), .val (.int p6), .val (.ref r1), .val (.ref r2), .val (.int (0 : Int32)), .val (.ref b3), .val (.ref b5), .val (.int nm), .val (.int (0 : Int32)), .val (.long (((0 : Int32).toInt64) + (p2.toInt64))), .second, .val (.int xe15), .val (.ref r16), .val (.int (1 : Int32)), .val (.int (1 : Int32)), .val (.int vv21)] [(.int (1 : Int32))])) _
      refine XS.goto X21.here hx rfl (pc0 := 251) (pc' := 255) rfl (hb hby at_251) (by decide) (by decide) ?_
      show Steps p.tables e below (T21.setTop (mkF m 255 #[.val (.int p1), .val (.int p2), .val (.int p3), .val (.int p4), .val (.int p5), .val (.int p6), .val (.ref r1), .val (.ref r2), .val (.int (0 : Int32)), .val (.ref b3), .val (.ref b5), .val (.int nm), .val (.int (0 : Int32)), .val (.long (((0 : Int32).toInt64) + (p2.toInt64))), .second, .val (.int xe15), .val (.ref r16), .val (.int (1 : Int32)), .val (.int (1 : Int32)), .val (.int vv21)] [(.int (1 : Int32))])) _
      exact k
    obtain ⟨fs, hr, hrun, hended, hEnd⟩ := X21.leaveW hS (by rw [Kq21]; exact hk) (v := some (.int (1 : Int32))) (fun h => by rw [Bd.returns] at h; cases h)
    refine ⟨_, _, retN X21 hx (t := .boolean) Bd.returns (by simp) (hb hby at_255) hr, hfin _ _ ⟨hrun, hended, _, _, rfl, ?_, hEnd.1, hEnd.2.1, hEnd.2.2.1, hEnd.2.2.2.mono (by decide) (by decide)⟩⟩
    show Q0 Z p1 p2 p3 p4 p5 p6 w0 w1 w2 w3 w4 w5 zc dz kz h0 n0 _ T21.heap _
    rw [Kq21]
    exact ⟨rfl, N⟩
  · by_cases ko_ : nk = (1 : Int32)
    · obtain ⟨T23, h23, X23, e23, E23, A23, D23, -, st23⟩ := newO X2 hx hZ hown (hw _ (own_g (i := 58) rfl)) (hw _ (own_g (i := 59) rfl)) (hw _ (own_g (i := 60) rfl)) rfl (g := (mkF m 26 #[.val (.int p1), .val (.int p2), .val (.int p3), .val (.int p4), .val (.int p5), .val (.int p6), .val (.ref r1), .val (.ref r2), .val (.int nk), .unset, .unset, .unset, .unset, .unset, .unset, .unset, .unset, .unset, .unset, .unset] [])) rfl (hb hby at_26) (by decide) (by decide)
      obtain ⟨b23, g23⟩ : ∃ z, z = T2.heap.size := ⟨_, rfl⟩
      rw [← g23] at A23 D23 st23
      have lt_r1_b23 : r1 < b23 := Nat.lt_of_lt_of_le Gq1_0.lt (Nat.le_of_eq g23.symm)
      have lt_r2_b23 : r2 < b23 := Nat.lt_of_lt_of_le Gq2_0.lt (Nat.le_of_eq g23.symm)
      have g_b23 : n0 ≤ b23 := Nat.le_trans (own_oldsz O) (Nat.le_of_eq g23.symm)
      replace Gq1_0 := Gq1_0.ext E23
      replace Gq2_0 := Gq2_0.ext E23
      replace O := O.ext E23
      replace hk := Nat.le_trans hk E23.1
      have F23_modCount : Fld Z h23 b23 "java/util/AbstractList" "modCount" "I" (.int (0 : Int32)) := D23 (Or.inl (hw _ (own_g (i := 78) rfl))) (ty := .int) (by decide)
      have F23_elementData : Fld Z h23 b23 "java/util/ArrayList" "elementData" "[Ljava/lang/Object;" .null := D23 (Or.inl (hw _ (own_g (i := 81) rfl))) (ty := (.array (.object "java/lang/Object"))) (by decide)
      have F23_size : Fld Z h23 b23 "java/util/ArrayList" "size" "I" (.int (0 : Int32)) := D23 (Or.inl (hw _ (own_g (i := 126) rfl))) (ty := .int) (by decide)
      refine own_go (B := T23.setTop (mkF m 29 #[.val (.int p1), .val (.int p2), .val (.int p3), .val (.int p4), .val (.int p5), .val (.int p6), .val (.ref r1), .val (.ref r2), .val (.int nk), .unset, .unset, .unset, .unset, .unset, .unset, .unset, .unset, .unset, .unset, .unset] [(.ref b23)])) st23 ?_
      subst ko_
      refine own_go (B := T23.setTop (mkF m 30 #[.val (.int p1), .val (.int p2), .val (.int p3), .val (.int p4), .val (.int p5), .val (.int p6), .val (.ref r1), .val (.ref r2), .val (.int (1 : Int32)), .unset, .unset, .unset, .unset, .unset, .unset, .unset, .unset, .unset, .unset, .unset] [(.ref b23), (.ref b23)])) (fun t k => ?_) ?_
      · show Steps p.tables e below (T23.setTop (mkF m 29 #[.val (.int p1), .val (.int p2), .val (.int p3), .val (.int p4), .val (.int p5), .val (.int p6), .val (.ref r1), .val (.ref r2), .val (.int (1 : Int32)), .unset, .unset, .unset, .unset, .unset, .unset, .unset, .unset, .unset, .unset, .unset] [(.ref b23)])) _
        refine XS.dup X23.here hx rfl (hb hby at_29) rfl rfl ?_
        show Steps p.tables e below (T23.setTop (mkF m 30 #[.val (.int p1), .val (.int p2), .val (.int p3), .val (.int p4), .val (.int p5), .val (.int p6), .val (.ref r1), .val (.ref r2), .val (.int (1 : Int32)), .unset, .unset, .unset, .unset, .unset, .unset, .unset, .unset, .unset, .unset, .unset] [(.ref b23), (.ref b23)])) _
        exact k
      -- pc 30: java/util/ArrayList.<init>
      obtain ⟨_, _, ⟨T24, L24, k24, n24⟩, -, X24, ⟨Lc24, hQ24, l24, y24, z24⟩, st24⟩ := X23.specialBack hx (y := (⟨"java/util/ArrayList", "<init>", "()V"⟩ : MethodName)) rfl hown (mvT hZ (hw _ (own_g (i := 61) rfl))) (mvT hZ (hw _ (own_g (i := 62) rfl))) (mvT hZ (hw _ (own_g (i := 63) rfl))) (by decide) (backOf (W := 1) (rmAlI l Z a0 hw [] b23 dz h23 n0 O A23 F23_modCount F23_elementData F23_size g_b23 S_D) hZ (hw _ (own_g (i := 63) rfl)) (hw _ (own_g (i := 60) rfl)) (by decide) (by decide)) (g := (mkF m 30 #[.val (.int p1), .val (.int p2), .val (.int p3), .val (.int p4), .val (.int p5), .val (.int p6), .val (.ref r1), .val (.ref r2), .val (.int (1 : Int32)), .unset, .unset, .unset, .unset, .unset, .unset, .unset, .unset, .unset, .unset, .unset] [(.ref b23), (.ref b23)])) rfl (by rw [hml]; rfl) (Steps.refl _) (a := b23) (argsL := []) (rest := [(.ref b23)]) (lenOf pd_3 rfl) rfl (by show 2 * 0 + _ ≤ _; exact Nat.le_of_eq rfl) (hb hby at_30) (fun _ hWm => ⟨rfl, e23, (by decide : 7 + 0 ≤ _), (by decide : 21 + 0 ≤ _)⟩)
      dsimp only [Pt.U, Pt.locs, Pt.cells, Pt.slots] at X24 l24 y24 z24 st24 hQ24
      subst l24 y24 z24
      obtain ⟨rfl, Nq24, Kq24, Gq24_0, Gq24_1, Gq24_2⟩ := hQ24
      replace N := Fr.app N Nq24
      replace Gq1_0 := Gq1_0.keep Kq24
      replace Gq2_0 := Gq2_0.keep Kq24
      replace A23 := A23.keep Kq24
      clear F23_modCount
      clear F23_elementData
      clear F23_size
      replace O := O.keep Kq24 (allS g_b23 all0)
      replace hk := Nat.le_trans hk Kq24.1
      refine own_go (B := T24.setTop (mkF m 33 #[.val (.int p1), .val (.int p2), .val (.int p3), .val (.int p4), .val (.int p5), .val (.int p6), .val (.ref r1), .val (.ref r2), .val (.int (1 : Int32)), .unset, .unset, .unset, .unset, .unset, .unset, .unset, .unset, .unset, .unset, .unset] [(.ref b23)])) (fun t k => st24.trans k) ?_
      refine own_go (B := T24.setTop (mkF m 45 #[.val (.int p1), .val (.int p2), .val (.int p3), .val (.int p4), .val (.int p5), .val (.int p6), .val (.ref r1), .val (.ref r2), .val (.int (1 : Int32)), .val (.ref b23), .unset, .unset, .unset, .unset, .unset, .unset, .unset, .unset, .unset, .unset] [(.ref r1), (.ref b23)])) (fun t k => ?_) ?_
      · show Steps p.tables e below (T24.setTop (mkF m 33 #[.val (.int p1), .val (.int p2), .val (.int p3), .val (.int p4), .val (.int p5), .val (.int p6), .val (.ref r1), .val (.ref r2), .val (.int (1 : Int32)), .unset, .unset, .unset, .unset, .unset, .unset, .unset, .unset, .unset, .unset, .unset] [(.ref b23)])) _
        refine XS.astore X24.here hx rfl (hb hby at_33) rfl rfl (l' := #[.val (.int p1), .val (.int p2), .val (.int p3), .val (.int p4), .val (.int p5), .val (.int p6), .val (.ref r1), .val (.ref r2), .val (.int (1 : Int32)), .val (.ref b23), .unset, .unset, .unset, .unset, .unset, .unset, .unset, .unset, .unset, .unset]) rfl ?_
        show Steps p.tables e below (T24.setTop (mkF m 35 #[.val (.int p1), .val (.int p2), .val (.int p3), .val (.int p4), .val (.int p5), .val (.int p6), .val (.ref r1), .val (.ref r2), .val (.int (1 : Int32)), .val (.ref b23), .unset, .unset, .unset, .unset, .unset, .unset, .unset, .unset, .unset, .unset] [])) _
        refine XS.iload X24.here hx rfl (hb hby at_35) rfl ?_
        show Steps p.tables e below (T24.setTop (mkF m 37 #[.val (.int p1), .val (.int p2), .val (.int p3), .val (.int p4), .val (.int p5), .val (.int p6), .val (.ref r1), .val (.ref r2), .val (.int (1 : Int32)), .val (.ref b23), .unset, .unset, .unset, .unset, .unset, .unset, .unset, .unset, .unset, .unset] [(.int (1 : Int32))])) _
        refine XS.iconst X24.here hx rfl (hb hby at_37) ?_
        show Steps p.tables e below (T24.setTop (mkF m 38 #[.val (.int p1), .val (.int p2), .val (.int p3), .val (.int p4), .val (.int p5), .val (.int p6), .val (.ref r1), .val (.ref r2), .val (.int (1 : Int32)), .val (.ref b23), .unset, .unset, .unset, .unset, .unset, .unset, .unset, .unset, .unset, .unset] [(.int (1 : Int32)), (.int (1 : Int32))])) _
        refine XS.icmpNo X24.here hx rfl (hb hby at_38) rfl (flt (by decide)).1 ?_
        show Steps p.tables e below (T24.setTop (mkF m 41 #[.val (.int p1), .val (.int p2), .val (.int p3), .val (.int p4), .val (.int p5), .val (.int p6), .val (.ref r1), .val (.ref r2), .val (.int (1 : Int32)), .val (.ref b23), .unset, .unset, .unset, .unset, .unset, .unset, .unset, .unset, .unset, .unset] [])) _
        refine XS.aload X24.here hx rfl (hb hby at_41) rfl rfl ?_
        show Steps p.tables e below (T24.setTop (mkF m 43 #[.val (.int p1), .val (.int p2), .val (.int p3), .val (.int p4), .val (.int p5), .val (.int p6), .val (.ref r1), .val (.ref r2), .val (.int (1 : Int32)), .val (.ref b23), .unset, .unset, .unset, .unset, .unset, .unset, .unset, .unset, .unset, .unset] [(.ref b23)])) _
        refine XS.aload X24.here hx rfl (hb hby at_43) rfl rfl ?_
        show Steps p.tables e below (T24.setTop (mkF m 45 #[.val (.int p1), .val (.int p2), .val (.int p3), .val (.int p4), .val (.int p5), .val (.int p6), .val (.ref r1), .val (.ref r2), .val (.int (1 : Int32)), .val (.ref b23), .unset, .unset, .unset, .unset, .unset, .unset, .unset, .unset, .unset, .unset] [(.ref r1), (.ref b23)])) _
        exact k
      -- pc 45: java/util/ArrayList.add
      obtain ⟨cq25, kq25, q25a, q25b, q25c⟩ := isOf hZ rfl A23
      obtain ⟨_, _, ⟨T25, L25, k25, n25⟩, -, X25, ⟨Lc25, hQ25, l25, y25, z25⟩, st25⟩ := X24.interfaceBack hx (xi := (⟨"java/util/List", "add", "(Ljava/lang/Object;)Z"⟩ : MethodName)) (y := (⟨"java/util/ArrayList", "add", "(Ljava/lang/Object;)Z"⟩ : MethodName)) hown (mvT hZ (hw _ (own_g (i := 138) rfl))) (mvT hZ (hw _ (own_g (i := 139) rfl))) (mvT hZ (hw _ (own_g (i := 140) rfl))) (mvT hZ (hw _ (own_g (i := 141) rfl))) (mvT hZ (hw _ (own_g (i := 142) rfl))) (mvT hZ (hw _ (own_g (i := 143) rfl))) (mvT hZ (hw _ (own_g (i := 144) rfl))) (mvT hZ (hw _ (own_g (i := 123) rfl))) (by decide) (backOf (W := 0) (rmA10 l Z a0 hw [] b23 r1 (0 : Int32) dz kz T24.heap n0 O A23 Gq24_0 Gq24_1 Gq24_2 g_b23 S_D V_Z Gq1_0) hZ (hw _ (own_g (i := 145) rfl)) (hw _ (own_g (i := 60) rfl)) (by decide) (by decide)) q25a q25b q25c (g := (mkF m 45 #[.val (.int p1), .val (.int p2), .val (.int p3), .val (.int p4), .val (.int p5), .val (.int p6), .val (.ref r1), .val (.ref r2), .val (.int (1 : Int32)), .val (.ref b23), .unset, .unset, .unset, .unset, .unset, .unset, .unset, .unset, .unset, .unset] [(.ref r1), (.ref b23)])) rfl (by rw [hml]; rfl) (Steps.refl _) (argsL := [(.ref r1)]) (rest := []) (lenOf pd_19 rfl) rfl (by show 2 * 0 + _ ≤ _; exact Nat.le_of_eq rfl) (hb hby at_45) (fun _ hWm => ⟨rfl, rfl, (by decide : 7 + 1 ≤ _), (by decide : 21 + 10 ≤ _)⟩)
      dsimp only [Pt.U, Pt.locs, Pt.cells, Pt.slots] at X25 l25 y25 z25 st25 hQ25
      subst l25 y25 z25
      obtain ⟨da25, kda25, rfl, Nq25, Kq25, fq25_da, Gq25_0, Gq25_1, Gq25_2, Gq25_3, cq25_0⟩ := hQ25
      replace N := Fr.app N Nq25
      have lt_r1_da25 : r1 < da25 := Nat.lt_of_lt_of_le Gq1_0.lt fq25_da
      have lt_r2_da25 : r2 < da25 := Nat.lt_of_lt_of_le Gq2_0.lt fq25_da
      have lt_b23_da25 : b23 < da25 := Nat.lt_of_lt_of_le A23.lt fq25_da
      have g_da25 : n0 ≤ da25 := Nat.le_trans (own_oldsz O) fq25_da
      replace Gq1_0 := Gq1_0.keep Kq25
      replace Gq2_0 := Gq2_0.keep Kq25
      replace A23 := A23.keep Kq25
      clear Gq24_0
      clear Gq24_1
      clear Gq24_2
      replace O := O.keep Kq25 (allS g_b23 all0)
      replace hk := Nat.le_trans hk Kq25.1
      refine own_go (B := T25.setTop (mkF m 50 #[.val (.int p1), .val (.int p2), .val (.int p3), .val (.int p4), .val (.int p5), .val (.int p6), .val (.ref r1), .val (.ref r2), .val (.int (1 : Int32)), .val (.ref b23), .unset, .unset, .unset, .unset, .unset, .unset, .unset, .unset, .unset, .unset] [(.int (1 : Int32))])) (fun t k => st25.trans k) ?_
      refine own_go (B := T25.setTop (mkF m 67 #[.val (.int p1), .val (.int p2), .val (.int p3), .val (.int p4), .val (.int p5), .val (.int p6), .val (.ref r1), .val (.ref r2), .val (.int (1 : Int32)), .val (.ref b23), .unset, .unset, .unset, .unset, .unset, .unset, .unset, .unset, .unset, .unset] [])) (fun t k => ?_) ?_
      · show Steps p.tables e below (T25.setTop (mkF m 50 #[.val (.int p1), .val (.int p2), .val (.int p3), .val (.int p4), .val (.int p5), .val (.int p6), .val (.ref r1), .val (.ref r2), .val (.int (1 : Int32)), .val (.ref b23), .unset, .unset, .unset, .unset, .unset, .unset, .unset, .unset, .unset, .unset] [(.int (1 : Int32))])) _
        refine XS.pop X25.here hx rfl (hb hby at_50) rfl rfl ?_
        show Steps p.tables e below (T25.setTop (mkF m 51 #[.val (.int p1), .val (.int p2), .val (.int p3), .val (.int p4), .val (.int p5), .val (.int p6), .val (.ref r1), .val (.ref r2), .val (.int (1 : Int32)), .val (.ref b23), .unset, .unset, .unset, .unset, .unset, .unset, .unset, .unset, .unset, .unset] [])) _
        refine XS.iload X25.here hx rfl (hb hby at_51) rfl ?_
        show Steps p.tables e below (T25.setTop (mkF m 53 #[.val (.int p1), .val (.int p2), .val (.int p3), .val (.int p4), .val (.int p5), .val (.int p6), .val (.ref r1), .val (.ref r2), .val (.int (1 : Int32)), .val (.ref b23), .unset, .unset, .unset, .unset, .unset, .unset, .unset, .unset, .unset, .unset] [(.int (1 : Int32))])) _
        refine XS.iconst X25.here hx rfl (hb hby at_53) ?_
        show Steps p.tables e below (T25.setTop (mkF m 54 #[.val (.int p1), .val (.int p2), .val (.int p3), .val (.int p4), .val (.int p5), .val (.int p6), .val (.ref r1), .val (.ref r2), .val (.int (1 : Int32)), .val (.ref b23), .unset, .unset, .unset, .unset, .unset, .unset, .unset, .unset, .unset, .unset] [(.int (2 : Int32)), (.int (1 : Int32))])) _
        refine XS.icmpYes X25.here hx rfl (pc0 := 54) (pc' := 67) rfl (hb hby at_54) rfl (tlt (by decide)).1 (by decide) (by decide) ?_
        show Steps p.tables e below (T25.setTop (mkF m 67 #[.val (.int p1), .val (.int p2), .val (.int p3), .val (.int p4), .val (.int p5), .val (.int p6), .val (.ref r1), .val (.ref r2), .val (.int (1 : Int32)), .val (.ref b23), .unset, .unset, .unset, .unset, .unset, .unset, .unset, .unset, .unset, .unset] [])) _
        exact k
      obtain ⟨T26, h26, X26, e26, E26, A26, D26, -, st26⟩ := newO X25 hx hZ hown (hw _ (own_g (i := 82) rfl)) (hw _ (own_g (i := 83) rfl)) (hw _ (own_g (i := 2) rfl)) rfl (g := (mkF m 67 #[.val (.int p1), .val (.int p2), .val (.int p3), .val (.int p4), .val (.int p5), .val (.int p6), .val (.ref r1), .val (.ref r2), .val (.int (1 : Int32)), .val (.ref b23), .unset, .unset, .unset, .unset, .unset, .unset, .unset, .unset, .unset, .unset] [])) rfl (hb hby at_67) (by decide) (by decide)
      obtain ⟨b26, g26⟩ : ∃ z, z = T25.heap.size := ⟨_, rfl⟩
      rw [← g26] at A26 D26 st26
      have lt_r1_b26 : r1 < b26 := Nat.lt_of_lt_of_le Gq1_0.lt (Nat.le_of_eq g26.symm)
      have lt_r2_b26 : r2 < b26 := Nat.lt_of_lt_of_le Gq2_0.lt (Nat.le_of_eq g26.symm)
      have lt_b23_b26 : b23 < b26 := Nat.lt_of_lt_of_le A23.lt (Nat.le_of_eq g26.symm)
      have lt_da25_b26 : da25 < b26 := Nat.lt_of_lt_of_le Gq25_3.lt (Nat.le_of_eq g26.symm)
      have g_b26 : n0 ≤ b26 := Nat.le_trans (own_oldsz O) (Nat.le_of_eq g26.symm)
      replace Gq1_0 := Gq1_0.ext E26
      replace Gq2_0 := Gq2_0.ext E26
      replace A23 := A23.ext E26
      replace Gq25_0 := Gq25_0.ext E26
      replace Gq25_1 := Gq25_1.ext E26
      replace Gq25_2 := Gq25_2.ext E26
      replace Gq25_3 := Gq25_3.ext E26
      replace O := O.ext E26
      replace hk := Nat.le_trans hk E26.1
      have F26_tokens : Fld Z h26 b26 "com/example/nasute/nasute/sql/TokenCursor" "tokens" "Ljava/util/List;" .null := D26 (Or.inr (hw _ (own_g (i := 94) rfl))) (ty := (.object "java/util/List")) (by decide)
      have F26_end : Fld Z h26 b26 "com/example/nasute/nasute/sql/TokenCursor" "end" "Lcom/example/nasute/nasute/sql/Token;" .null := D26 (Or.inr (hw _ (own_g (i := 103) rfl))) (ty := (.object "com/example/nasute/nasute/sql/Token")) (by decide)
      have F26_at : Fld Z h26 b26 "com/example/nasute/nasute/sql/TokenCursor" "at" "I" (.int (0 : Int32)) := D26 (Or.inl (hw _ (own_g (i := 115) rfl))) (ty := .int) (by decide)
      refine own_go (B := T26.setTop (mkF m 70 #[.val (.int p1), .val (.int p2), .val (.int p3), .val (.int p4), .val (.int p5), .val (.int p6), .val (.ref r1), .val (.ref r2), .val (.int (1 : Int32)), .val (.ref b23), .unset, .unset, .unset, .unset, .unset, .unset, .unset, .unset, .unset, .unset] [(.ref b26)])) st26 ?_
      refine own_go (B := T26.setTop (mkF m 74 #[.val (.int p1), .val (.int p2), .val (.int p3), .val (.int p4), .val (.int p5), .val (.int p6), .val (.ref r1), .val (.ref r2), .val (.int (1 : Int32)), .val (.ref b23), .unset, .unset, .unset, .unset, .unset, .unset, .unset, .unset, .unset, .unset] [(.int p3), (.ref b23), (.ref b26), (.ref b26)])) (fun t k => ?_) ?_
      · show Steps p.tables e below (T26.setTop (mkF m 70 #[.val (.int p1), .val (.int p2), .val (.int p3), .val (.int p4), .val (.int p5), .val (.int p6), .val (.ref r1), .val (.ref r2), .val (.int (1 : Int32)), .val (.ref b23), .unset, .unset, .unset, .unset, .unset, .unset, .unset, .unset, .unset, .unset] [(.ref b26)])) _
        refine XS.dup X26.here hx rfl (hb hby at_70) rfl rfl ?_
        show Steps p.tables e below (T26.setTop (mkF m 71 #[.val (.int p1), .val (.int p2), .val (.int p3), .val (.int p4), .val (.int p5), .val (.int p6), .val (.ref r1), .val (.ref r2), .val (.int (1 : Int32)), .val (.ref b23), .unset, .unset, .unset, .unset, .unset, .unset, .unset, .unset, .unset, .unset] [(.ref b26), (.ref b26)])) _
        refine XS.aload X26.here hx rfl (hb hby at_71) rfl rfl ?_
        show Steps p.tables e below (T26.setTop (mkF m 73 #[.val (.int p1), .val (.int p2), .val (.int p3), .val (.int p4), .val (.int p5), .val (.int p6), .val (.ref r1), .val (.ref r2), .val (.int (1 : Int32)), .val (.ref b23), .unset, .unset, .unset, .unset, .unset, .unset, .unset, .unset, .unset, .unset] [(.ref b23), (.ref b26), (.ref b26)])) _
        refine XS.iloadN X26.here hx rfl (hb hby at_73) rfl ?_
        show Steps p.tables e below (T26.setTop (mkF m 74 #[.val (.int p1), .val (.int p2), .val (.int p3), .val (.int p4), .val (.int p5), .val (.int p6), .val (.ref r1), .val (.ref r2), .val (.int (1 : Int32)), .val (.ref b23), .unset, .unset, .unset, .unset, .unset, .unset, .unset, .unset, .unset, .unset] [(.int p3), (.ref b23), (.ref b26), (.ref b26)])) _
        exact k
      -- pc 74: com/example/nasute/nasute/sql/TokenCursorIsTextEndPinLaw.<init>
      obtain ⟨_, _, ⟨T27, L27, k27, n27⟩, -, X27, hSq27, hgq27, ⟨Lc27, hQ27, l27, y27, z27⟩, st27⟩ := X26.specialBackS hx (y := (⟨"com/example/nasute/nasute/sql/TokenCursorIsTextEndPinLaw", "<init>", "(Ljava/util/List;I)V"⟩ : MethodName)) rfl hown (mvT hZ (hw _ (own_g (i := 84) rfl))) (mvT hZ (hw _ (own_g (i := 85) rfl))) (mvT hZ (hw _ (own_g (i := 86) rfl))) (by decide) (backOfS (W := 1) (rmPlI l Z a0 hw [] b26 b23 p3 w5 h26 n0 O A26 F26_tokens F26_end F26_at g_b26 S_5) hZ (hw _ (own_g (i := 86) rfl)) (hw _ (own_g (i := 2) rfl)) (by decide) (by decide)) (g := (mkF m 74 #[.val (.int p1), .val (.int p2), .val (.int p3), .val (.int p4), .val (.int p5), .val (.int p6), .val (.ref r1), .val (.ref r2), .val (.int (1 : Int32)), .val (.ref b23), .unset, .unset, .unset, .unset, .unset, .unset, .unset, .unset, .unset, .unset] [(.int p3), (.ref b23), (.ref b26), (.ref b26)])) rfl (by rw [hml]; rfl) (Steps.refl _) (a := b26) (argsL := [(.ref b23), (.int p3)]) (rest := [(.ref b26)]) (lenOf pd_13 rfl) rfl (by show 2 * 0 + _ ≤ _; exact Nat.le_of_eq rfl) (hb hby at_74) (fun _ hWm => ⟨rfl, e26, (by decide : 9 + 3 ≤ _), (by decide : 34 + 8 ≤ _)⟩)
      dsimp only [Pt.U, Pt.locs, Pt.cells, Pt.slots] at X27 l27 y27 z27 st27 hQ27 hSq27 hgq27
      subst l27 y27 z27
      obtain ⟨X27, hS, hZ, hown⟩ := rebS hS (by rw [e26]; exact hk) X27 hSq27 hgq27 hZ hown
      obtain ⟨en27, rfl, Nq27, Kq27, fq27_en, Gq27_0, Gq27_1, Gq27_2, Gq27_3⟩ := hQ27
      replace N := Fr.app N Nq27
      have lt_r1_en27 : r1 < en27 := Nat.lt_of_lt_of_le Gq1_0.lt fq27_en
      have lt_r2_en27 : r2 < en27 := Nat.lt_of_lt_of_le Gq2_0.lt fq27_en
      have lt_b23_en27 : b23 < en27 := Nat.lt_of_lt_of_le A23.lt fq27_en
      have lt_da25_en27 : da25 < en27 := Nat.lt_of_lt_of_le Gq25_3.lt fq27_en
      have lt_b26_en27 : b26 < en27 := Nat.lt_of_lt_of_le A26.lt fq27_en
      have g_en27 : n0 ≤ en27 := Nat.le_trans (own_oldsz O) fq27_en
      replace Gq1_0 := Gq1_0.keep Kq27
      replace Gq2_0 := Gq2_0.keep Kq27
      replace A23 := A23.keep Kq27
      replace Gq25_0 := Gq25_0.keep Kq27 (ninS (Nat.ne_of_lt lt_b23_b26) nin0)
      replace Gq25_1 := Gq25_1.keep Kq27 (ninS (Nat.ne_of_lt lt_b23_b26) nin0)
      replace Gq25_2 := Gq25_2.keep Kq27 (ninS (Nat.ne_of_lt lt_b23_b26) nin0)
      replace Gq25_3 := Gq25_3.keep Kq27 (ninS (Nat.ne_of_lt lt_da25_b26) nin0)
      replace A26 := A26.keep Kq27
      clear F26_tokens
      clear F26_end
      clear F26_at
      replace O := O.keep Kq27 (allS g_b26 all0)
      have hk : T27.heap.size ≤ T27.heap.size := Nat.le_refl _
      refine own_go (B := T27.setTop (mkF m 77 #[.val (.int p1), .val (.int p2), .val (.int p3), .val (.int p4), .val (.int p5), .val (.int p6), .val (.ref r1), .val (.ref r2), .val (.int (1 : Int32)), .val (.ref b23), .unset, .unset, .unset, .unset, .unset, .unset, .unset, .unset, .unset, .unset] [(.ref b26)])) (fun t k => st27.trans k) ?_
      refine own_go (B := T27.setTop (mkF m 88 #[.val (.int p1), .val (.int p2), .val (.int p3), .val (.int p4), .val (.int p5), .val (.int p6), .val (.ref r1), .val (.ref r2), .val (.int (1 : Int32)), .val (.ref b23), .val (.ref b26), .val (.int (((p6.toUInt32 >>> ((6 : Int32) &&& 31).toUInt32).toInt32) &&& (3 : Int32))), .unset, .unset, .unset, .unset, .unset, .unset, .unset, .unset] [])) (fun t k => ?_) ?_
      · show Steps p.tables e below (T27.setTop (mkF m 77 #[.val (.int p1), .val (.int p2), .val (.int p3), .val (.int p4), .val (.int p5), .val (.int p6), .val (.ref r1), .val (.ref r2), .val (.int (1 : Int32)), .val (.ref b23), .unset, .unset, .unset, .unset, .unset, .unset, .unset, .unset, .unset, .unset] [(.ref b26)])) _
        refine XS.astore X27.here hx rfl (hb hby at_77) rfl rfl (l' := #[.val (.int p1), .val (.int p2), .val (.int p3), .val (.int p4), .val (.int p5), .val (.int p6), .val (.ref r1), .val (.ref r2), .val (.int (1 : Int32)), .val (.ref b23), .val (.ref b26), .unset, .unset, .unset, .unset, .unset, .unset, .unset, .unset, .unset]) rfl ?_
        show Steps p.tables e below (T27.setTop (mkF m 79 #[.val (.int p1), .val (.int p2), .val (.int p3), .val (.int p4), .val (.int p5), .val (.int p6), .val (.ref r1), .val (.ref r2), .val (.int (1 : Int32)), .val (.ref b23), .val (.ref b26), .unset, .unset, .unset, .unset, .unset, .unset, .unset, .unset, .unset] [])) _
        refine XS.iload X27.here hx rfl (hb hby at_79) rfl ?_
        show Steps p.tables e below (T27.setTop (mkF m 81 #[.val (.int p1), .val (.int p2), .val (.int p3), .val (.int p4), .val (.int p5), .val (.int p6), .val (.ref r1), .val (.ref r2), .val (.int (1 : Int32)), .val (.ref b23), .val (.ref b26), .unset, .unset, .unset, .unset, .unset, .unset, .unset, .unset, .unset] [(.int p6)])) _
        refine XS.bipush X27.here hx rfl (hb hby at_81) ?_
        show Steps p.tables e below (T27.setTop (mkF m 83 #[.val (.int p1), .val (.int p2), .val (.int p3), .val (.int p4), .val (.int p5), .val (.int p6), .val (.ref r1), .val (.ref r2), .val (.int (1 : Int32)), .val (.ref b23), .val (.ref b26), .unset, .unset, .unset, .unset, .unset, .unset, .unset, .unset, .unset] [(.int (6 : Int32)), (.int p6)])) _
        refine XS.iushr X27.here hx rfl (hb hby at_83) rfl ?_
        show Steps p.tables e below (T27.setTop (mkF m 84 #[.val (.int p1), .val (.int p2), .val (.int p3), .val (.int p4), .val (.int p5), .val (.int p6), .val (.ref r1), .val (.ref r2), .val (.int (1 : Int32)), .val (.ref b23), .val (.ref b26), .unset, .unset, .unset, .unset, .unset, .unset, .unset, .unset, .unset] [(.int ((p6.toUInt32 >>> ((6 : Int32) &&& 31).toUInt32).toInt32))])) _
        refine XS.iconst X27.here hx rfl (hb hby at_84) ?_
        show Steps p.tables e below (T27.setTop (mkF m 85 #[.val (.int p1), .val (.int p2), .val (.int p3), .val (.int p4), .val (.int p5), .val (.int p6), .val (.ref r1), .val (.ref r2), .val (.int (1 : Int32)), .val (.ref b23), .val (.ref b26), .unset, .unset, .unset, .unset, .unset, .unset, .unset, .unset, .unset] [(.int (3 : Int32)), (.int ((p6.toUInt32 >>> ((6 : Int32) &&& 31).toUInt32).toInt32))])) _
        refine XS.iand X27.here hx rfl (hb hby at_85) rfl ?_
        show Steps p.tables e below (T27.setTop (mkF m 86 #[.val (.int p1), .val (.int p2), .val (.int p3), .val (.int p4), .val (.int p5), .val (.int p6), .val (.ref r1), .val (.ref r2), .val (.int (1 : Int32)), .val (.ref b23), .val (.ref b26), .unset, .unset, .unset, .unset, .unset, .unset, .unset, .unset, .unset] [(.int (((p6.toUInt32 >>> ((6 : Int32) &&& 31).toUInt32).toInt32) &&& (3 : Int32)))])) _
        refine XS.istore X27.here hx rfl (hb hby at_86) rfl (l' := #[.val (.int p1), .val (.int p2), .val (.int p3), .val (.int p4), .val (.int p5), .val (.int p6), .val (.ref r1), .val (.ref r2), .val (.int (1 : Int32)), .val (.ref b23), .val (.ref b26), .val (.int (((p6.toUInt32 >>> ((6 : Int32) &&& 31).toUInt32).toInt32) &&& (3 : Int32))), .unset, .unset, .unset, .unset, .unset, .unset, .unset, .unset]) rfl ?_
        show Steps p.tables e below (T27.setTop (mkF m 88 #[.val (.int p1), .val (.int p2), .val (.int p3), .val (.int p4), .val (.int p5), .val (.int p6), .val (.ref r1), .val (.ref r2), .val (.int (1 : Int32)), .val (.ref b23), .val (.ref b26), .val (.int (((p6.toUInt32 >>> ((6 : Int32) &&& 31).toUInt32).toInt32) &&& (3 : Int32))), .unset, .unset, .unset, .unset, .unset, .unset, .unset, .unset] [])) _
        exact k
      obtain ⟨nm, hnm⟩ : ∃ z : Int32, z = (((p6.toUInt32 >>> ((6 : Int32) &&& 31).toUInt32).toInt32) &&& (3 : Int32)) := ⟨_, rfl⟩
      rw [← hnm]
      have bnm : nm = (0 : Int32) ∨ nm = (1 : Int32) ∨ nm = (2 : Int32) ∨ nm = (3 : Int32) := by rw [hnm]; exact own_mask3 _
      suffices hseg28 : ∀ (T28 : State) (vm28 : Vm) (kk28 : Nat) (h28 : Heap) (L28 : List Loc) (av28 : Int32), Stand p l e room_1 (s.setVm vm28) m #[(.int p1), (.int p2), (.int p3), (.int p4), (.int p5), (.int p6)] below meth c T28 L28 12 42 → T28.heap = h28 → Fr n0 L28 → s.Since vm28 kk28 → kk28 ≤ h28.size → Z.Warmed39 (s.setVm vm28).vm → (s.setVm vm28).vm.findClass "com/example/nasute/nasute/sql/TokenCursorIsTextEndPinLaw" = some m.cls → Old Z n0 h28 → Exa Z h28 r1 "com/example/nasute/nasute/sql/Token" → Exa Z h28 r2 "com/example/nasute/nasute/sql/Token" → Exa Z h28 b23 "java/util/ArrayList" → Fld Z h28 b23 "java/util/AbstractList" "modCount" "I" (.int ((0 : Int32) + (1 : Int32))) → Fld Z h28 b23 "java/util/ArrayList" "elementData" "[Ljava/lang/Object;" (.ref da25) → Fld Z h28 b23 "java/util/ArrayList" "size" "I" (.int (1 : Int32)) → Arv Z h28 da25 kda25 (.object "java/lang/Object") (10 : Int32) [(.ref r1), .null, .null, .null, .null, .null, .null, .null, .null, .null] .null → Exa Z h28 b26 "com/example/nasute/nasute/sql/TokenCursorIsTextEndPinLaw" → Exa Z h28 en27 "com/example/nasute/nasute/sql/Token" → Fld Z h28 b26 "com/example/nasute/nasute/sql/TokenCursor" "tokens" "Ljava/util/List;" (.ref b23) → Fld Z h28 b26 "com/example/nasute/nasute/sql/TokenCursor" "end" "Lcom/example/nasute/nasute/sql/Token;" (.ref en27) → Fld Z h28 b26 "com/example/nasute/nasute/sql/TokenCursor" "at" "I" (.int av28) → (av28 = if (1 : Int32) < nm then (1 : Int32) else nm) → (0 ≤ av28.toInt ∧ av28.toInt ≤ 2) → ∃ s₂ o, Steps p.tables e below (T28.setTop (mkF m 124 #[.val (.int p1), .val (.int p2), .val (.int p3), .val (.int p4), .val (.int p5), .val (.int p6), .val (.ref r1), .val (.ref r2), .val (.int (1 : Int32)), .val (.ref b23), .val (.ref b26), .val (.int nm), .unset, .unset, .unset, .unset, .unset, .unset, .unset, .unset] [])) s₂ ∧ P s₂ o by
        by_cases mz_ : nm = (0 : Int32)
        · refine own_go (B := T27.setTop (mkF m 90 #[.val (.int p1), .val (.int p2), .val (.int p3), .val (.int p4), .val (.int p5), .val (.int p6), .val (.ref r1), .val (.ref r2), .val (.int (1 : Int32)), .val (.ref b23), .val (.ref b26), .val (.int nm), .unset, .unset, .unset, .unset, .unset, .unset, .unset, .unset] [(.int nm)])) (fun t k => ?_) ?_
          · show Steps p.tables e below (T27.setTop (mkF m 88 #[.val (.int p1), .val (.int p2), .val (.int p3), .val (.int p4), .val (.int p5), .val (.int p6), .val (.ref r1), .val (.ref r2), .val (.int (1 : Int32)), .val (.ref b23), .val (.ref b26), .val (.int nm), .unset, .unset, .unset, .unset, .unset, .unset, .unset, .unset] [])) _
            refine XS.iload X27.here hx rfl (hb hby at_88) rfl ?_
            show Steps p.tables e below (T27.setTop (mkF m 90 #[.val (.int p1), .val (.int p2), .val (.int p3), .val (.int p4), .val (.int p5), .val (.int p6), .val (.ref r1), .val (.ref r2), .val (.int (1 : Int32)), .val (.ref b23), .val (.ref b26), .val (.int nm), .unset, .unset, .unset, .unset, .unset, .unset, .unset, .unset] [(.int nm)])) _
            exact k
          subst mz_
          refine own_go (B := T27.setTop (mkF m 124 #[.val (.int p1), .val (.int p2), .val (.int p3), .val (.int p4), .val (.int p5), .val (.int p6), .val (.ref r1), .val (.ref r2), .val (.int (1 : Int32)), .val (.ref b23), .val (.ref b26), .val (.int (0 : Int32)), .unset, .unset, .unset, .unset, .unset, .unset, .unset, .unset] [])) (fun t k => ?_) ?_
          · show Steps p.tables e below (T27.setTop (mkF m 90 #[.val (.int p1), .val (.int p2), .val (.int p3), .val (.int p4), .val (.int p5), .val (.int p6), .val (.ref r1), .val (.ref r2), .val (.int (1 : Int32)), .val (.ref b23), .val (.ref b26), .val (.int (0 : Int32)), .unset, .unset, .unset, .unset, .unset, .unset, .unset, .unset] [(.int (0 : Int32))])) _
            refine XS.iconst X27.here hx rfl (hb hby at_90) ?_
            show Steps p.tables e below (T27.setTop (mkF m 91 #[.val (.int p1), .val (.int p2), .val (.int p3), .val (.int p4), .val (.int p5), .val (.int p6), .val (.ref r1), .val (.ref r2), .val (.int (1 : Int32)), .val (.ref b23), .val (.ref b26), .val (.int (0 : Int32)), .unset, .unset, .unset, .unset, .unset, .unset, .unset, .unset] [(.int (1 : Int32)), (.int (0 : Int32))])) _
            refine XS.icmpYes X27.here hx rfl (pc0 := 91) (pc' := 100) rfl (hb hby at_91) rfl (tlt (by decide)).1 (by decide) (by decide) ?_
            show Steps p.tables e below (T27.setTop (mkF m 100 #[.val (.int p1), .val (.int p2), .val (.int p3), .val (.int p4), .val (.int p5), .val (.int p6), .val (.ref r1), .val (.ref r2), .val (.int (1 : Int32)), .val (.ref b23), .val (.ref b26), .val (.int (0 : Int32)), .unset, .unset, .unset, .unset, .unset, .unset, .unset, .unset] [])) _
            refine XS.iload X27.here hx rfl (hb hby at_100) rfl ?_
            show Steps p.tables e below (T27.setTop (mkF m 102 #[.val (.int p1), .val (.int p2), .val (.int p3), .val (.int p4), .val (.int p5), .val (.int p6), .val (.ref r1), .val (.ref r2), .val (.int (1 : Int32)), .val (.ref b23), .val (.ref b26), .val (.int (0 : Int32)), .unset, .unset, .unset, .unset, .unset, .unset, .unset, .unset] [(.int (0 : Int32))])) _
            refine XS.iconst X27.here hx rfl (hb hby at_102) ?_
            show Steps p.tables e below (T27.setTop (mkF m 103 #[.val (.int p1), .val (.int p2), .val (.int p3), .val (.int p4), .val (.int p5), .val (.int p6), .val (.ref r1), .val (.ref r2), .val (.int (1 : Int32)), .val (.ref b23), .val (.ref b26), .val (.int (0 : Int32)), .unset, .unset, .unset, .unset, .unset, .unset, .unset, .unset] [(.int (2 : Int32)), (.int (0 : Int32))])) _
            refine XS.icmpYes X27.here hx rfl (pc0 := 103) (pc' := 112) rfl (hb hby at_103) rfl (tlt (by decide)).1 (by decide) (by decide) ?_
            show Steps p.tables e below (T27.setTop (mkF m 112 #[.val (.int p1), .val (.int p2), .val (.int p3), .val (.int p4), .val (.int p5), .val (.int p6), .val (.ref r1), .val (.ref r2), .val (.int (1 : Int32)), .val (.ref b23), .val (.ref b26), .val (.int (0 : Int32)), .unset, .unset, .unset, .unset, .unset, .unset, .unset, .unset] [])) _
            refine XS.iload X27.here hx rfl (hb hby at_112) rfl ?_
            show Steps p.tables e below (T27.setTop (mkF m 114 #[.val (.int p1), .val (.int p2), .val (.int p3), .val (.int p4), .val (.int p5), .val (.int p6), .val (.ref r1), .val (.ref r2), .val (.int (1 : Int32)), .val (.ref b23), .val (.ref b26), .val (.int (0 : Int32)), .unset, .unset, .unset, .unset, .unset, .unset, .unset, .unset] [(.int (0 : Int32))])) _
            refine XS.iconst X27.here hx rfl (hb hby at_114) ?_
            show Steps p.tables e below (T27.setTop (mkF m 115 #[.val (.int p1), .val (.int p2), .val (.int p3), .val (.int p4), .val (.int p5), .val (.int p6), .val (.ref r1), .val (.ref r2), .val (.int (1 : Int32)), .val (.ref b23), .val (.ref b26), .val (.int (0 : Int32)), .unset, .unset, .unset, .unset, .unset, .unset, .unset, .unset] [(.int (3 : Int32)), (.int (0 : Int32))])) _
            refine XS.icmpYes X27.here hx rfl (pc0 := 115) (pc' := 124) rfl (hb hby at_115) rfl (tlt (by decide)).1 (by decide) (by decide) ?_
            show Steps p.tables e below (T27.setTop (mkF m 124 #[.val (.int p1), .val (.int p2), .val (.int p3), .val (.int p4), .val (.int p5), .val (.int p6), .val (.ref r1), .val (.ref r2), .val (.int (1 : Int32)), .val (.ref b23), .val (.ref b26), .val (.int (0 : Int32)), .unset, .unset, .unset, .unset, .unset, .unset, .unset, .unset] [])) _
            exact k
          exact hseg28 T27 _ _ T27.heap _ (0 : Int32) (X27.more (by decide) (by decide)) rfl N hS hk hZ hown O Gq1_0 Gq2_0 A23 Gq25_0 Gq25_1 Gq25_2 Gq25_3 A26 Gq27_0 Gq27_1 Gq27_2 Gq27_3 (by decide) (by decide)
        · by_cases mo_ : nm = (1 : Int32)
          · refine own_go (B := T27.setTop (mkF m 90 #[.val (.int p1), .val (.int p2), .val (.int p3), .val (.int p4), .val (.int p5), .val (.int p6), .val (.ref r1), .val (.ref r2), .val (.int (1 : Int32)), .val (.ref b23), .val (.ref b26), .val (.int nm), .unset, .unset, .unset, .unset, .unset, .unset, .unset, .unset] [(.int nm)])) (fun t k => ?_) ?_
            · show Steps p.tables e below (T27.setTop (mkF m 88 #[.val (.int p1), .val (.int p2), .val (.int p3), .val (.int p4), .val (.int p5), .val (.int p6), .val (.ref r1), .val (.ref r2), .val (.int (1 : Int32)), .val (.ref b23), .val (.ref b26), .val (.int nm), .unset, .unset, .unset, .unset, .unset, .unset, .unset, .unset] [])) _
              refine XS.iload X27.here hx rfl (hb hby at_88) rfl ?_
              show Steps p.tables e below (T27.setTop (mkF m 90 #[.val (.int p1), .val (.int p2), .val (.int p3), .val (.int p4), .val (.int p5), .val (.int p6), .val (.ref r1), .val (.ref r2), .val (.int (1 : Int32)), .val (.ref b23), .val (.ref b26), .val (.int nm), .unset, .unset, .unset, .unset, .unset, .unset, .unset, .unset] [(.int nm)])) _
              exact k
            subst mo_
            refine own_go (B := T27.setTop (mkF m 96 #[.val (.int p1), .val (.int p2), .val (.int p3), .val (.int p4), .val (.int p5), .val (.int p6), .val (.ref r1), .val (.ref r2), .val (.int (1 : Int32)), .val (.ref b23), .val (.ref b26), .val (.int (1 : Int32)), .unset, .unset, .unset, .unset, .unset, .unset, .unset, .unset] [(.ref b26)])) (fun t k => ?_) ?_
            · show Steps p.tables e below (T27.setTop (mkF m 90 #[.val (.int p1), .val (.int p2), .val (.int p3), .val (.int p4), .val (.int p5), .val (.int p6), .val (.ref r1), .val (.ref r2), .val (.int (1 : Int32)), .val (.ref b23), .val (.ref b26), .val (.int (1 : Int32)), .unset, .unset, .unset, .unset, .unset, .unset, .unset, .unset] [(.int (1 : Int32))])) _
              refine XS.iconst X27.here hx rfl (hb hby at_90) ?_
              show Steps p.tables e below (T27.setTop (mkF m 91 #[.val (.int p1), .val (.int p2), .val (.int p3), .val (.int p4), .val (.int p5), .val (.int p6), .val (.ref r1), .val (.ref r2), .val (.int (1 : Int32)), .val (.ref b23), .val (.ref b26), .val (.int (1 : Int32)), .unset, .unset, .unset, .unset, .unset, .unset, .unset, .unset] [(.int (1 : Int32)), (.int (1 : Int32))])) _
              refine XS.icmpNo X27.here hx rfl (hb hby at_91) rfl (flt (by decide)).1 ?_
              show Steps p.tables e below (T27.setTop (mkF m 94 #[.val (.int p1), .val (.int p2), .val (.int p3), .val (.int p4), .val (.int p5), .val (.int p6), .val (.ref r1), .val (.ref r2), .val (.int (1 : Int32)), .val (.ref b23), .val (.ref b26), .val (.int (1 : Int32)), .unset, .unset, .unset, .unset, .unset, .unset, .unset, .unset] [])) _
              refine XS.aload X27.here hx rfl (hb hby at_94) rfl rfl ?_
              show Steps p.tables e below (T27.setTop (mkF m 96 #[.val (.int p1), .val (.int p2), .val (.int p3), .val (.int p4), .val (.int p5), .val (.int p6), .val (.ref r1), .val (.ref r2), .val (.int (1 : Int32)), .val (.ref b23), .val (.ref b26), .val (.int (1 : Int32)), .unset, .unset, .unset, .unset, .unset, .unset, .unset, .unset] [(.ref b26)])) _
              exact k
            -- pc 96: com/example/nasute/nasute/sql/TokenCursor.next
            obtain ⟨cq29, kq29, q29a, q29b, q29c⟩ := isOf hZ rfl A26
            obtain ⟨_, _, ⟨T29, L29, k29, n29⟩, -, X29, ⟨Lc29, hQ29, l29, y29, z29⟩, st29⟩ := X27.virtualBackUp hx (x := (⟨"com/example/nasute/nasute/sql/TokenCursorIsTextEndPinLaw", "next", "()Lcom/example/nasute/nasute/sql/Token;"⟩ : MethodName)) (y := (⟨"com/example/nasute/nasute/sql/TokenCursor", "next", "()Lcom/example/nasute/nasute/sql/Token;"⟩ : MethodName)) hown (mvT hZ (hw _ (own_g (i := 169) rfl))) (mvT hZ (hw _ (own_g (i := 170) rfl))) (mvT hZ (hw _ (own_g (i := 171) rfl))) (by decide) (mvT hZ (hw _ (own_g (i := 173) rfl))) (mvT hZ (hw _ (own_g (i := 172) rfl))) (backOf (W := 0) (rmNx10 l Z a0 hw [] b26 b23 en27 da25 kda25 r1 T27.heap n0 O A26 Gq27_1 Gq27_2 Gq27_3 A23 Gq25_2 Gq25_1 Gq25_3 Gq1_0 (Nat.ne_of_lt lt_r1_en27) g_b26 (Nat.ne_of_lt lt_b23_b26) (Nat.ne_of_lt lt_da25_b26)) hZ (hw _ (own_g (i := 174) rfl)) (hw _ (own_g (i := 90) rfl)) (by decide) (by decide)) q29a q29c (g := (mkF m 96 #[.val (.int p1), .val (.int p2), .val (.int p3), .val (.int p4), .val (.int p5), .val (.int p6), .val (.ref r1), .val (.ref r2), .val (.int (1 : Int32)), .val (.ref b23), .val (.ref b26), .val (.int (1 : Int32)), .unset, .unset, .unset, .unset, .unset, .unset, .unset, .unset] [(.ref b26)])) rfl (by rw [hml]; rfl) (Steps.refl _) (argsL := []) (rest := []) (lenOf pd_16 rfl) rfl (by show 2 * 0 + _ ≤ _; exact Nat.le_of_eq rfl) (hb hby at_96) (fun _ hWm => ⟨rfl, rfl, (by decide : 12 + 0 ≤ _), (by decide : 42 + 0 ≤ _)⟩)
            dsimp only [Pt.U, Pt.locs, Pt.cells, Pt.slots] at X29 l29 y29 z29 st29 hQ29
            subst l29 y29 z29
            obtain ⟨r29, rfl, Nq29, Kq29, Gq29_0, Gq29_1, Gq29_2⟩ := hQ29
            replace N := Fr.app N Nq29
            replace Gq1_0 := Gq1_0.keep Kq29
            replace Gq2_0 := Gq2_0.keep Kq29
            replace A23 := A23.keep Kq29
            replace Gq25_0 := Gq25_0.keep Kq29 (ninS (Nat.ne_of_lt lt_b23_b26) nin0)
            replace Gq25_1 := Gq25_1.keep Kq29 (ninS (Nat.ne_of_lt lt_b23_b26) nin0)
            replace Gq25_2 := Gq25_2.keep Kq29 (ninS (Nat.ne_of_lt lt_b23_b26) nin0)
            replace Gq25_3 := Gq25_3.keep Kq29 (ninS (Nat.ne_of_lt lt_da25_b26) nin0)
            replace A26 := A26.keep Kq29
            replace Gq27_0 := Gq27_0.keep Kq29
            clear Gq27_1
            clear Gq27_2
            clear Gq27_3
            replace O := O.keep Kq29 (allS g_b26 all0)
            replace hk := Nat.le_trans hk Kq29.1
            refine own_go (B := T29.setTop (mkF m 99 #[.val (.int p1), .val (.int p2), .val (.int p3), .val (.int p4), .val (.int p5), .val (.int p6), .val (.ref r1), .val (.ref r2), .val (.int (1 : Int32)), .val (.ref b23), .val (.ref b26), .val (.int (1 : Int32)), .unset, .unset, .unset, .unset, .unset, .unset, .unset, .unset] [(.ref r29)])) (fun t k => st29.trans k) ?_
            refine own_go (B := T29.setTop (mkF m 124 #[.val (.int p1), .val (.int p2), .val (.int p3), .val (.int p4), .val (.int p5), .val (.int p6), .val (.ref r1), .val (.ref r2), .val (.int (1 : Int32)), .val (.ref b23), .val (.ref b26), .val (.int (1 : Int32)), .unset, .unset, .unset, .unset, .unset, .unset, .unset, .unset] [])) (fun t k => ?_) ?_
            · show Steps p.tables e below (T29.setTop (mkF m 99 #[.val (.int p1), .val (.int p2), .val (.int p3), .val (.int p4), .val (.int p5), .val (.int p6), .val (.ref r1), .val (.ref r2), .val (.int (1 : Int32)), .val (.ref b23), .val (.ref b26), .val (.int (1 : Int32)), .unset, .unset, .unset, .unset, .unset, .unset, .unset, .unset] [(.ref r29)])) _
              refine XS.pop X29.here hx rfl (hb hby at_99) rfl rfl ?_
              show Steps p.tables e below (T29.setTop (mkF m 100 #[.val (.int p1), .val (.int p2), .val (.int p3), .val (.int p4), .val (.int p5), .val (.int p6), .val (.ref r1), .val (.ref r2), .val (.int (1 : Int32)), .val (.ref b23), .val (.ref b26), .val (.int (1 : Int32)), .unset, .unset, .unset, .unset, .unset, .unset, .unset, .unset] [])) _
              refine XS.iload X29.here hx rfl (hb hby at_100) rfl ?_
              show Steps p.tables e below (T29.setTop (mkF m 102 #[.val (.int p1), .val (.int p2), .val (.int p3), .val (.int p4), .val (.int p5), .val (.int p6), .val (.ref r1), .val (.ref r2), .val (.int (1 : Int32)), .val (.ref b23), .val (.ref b26), .val (.int (1 : Int32)), .unset, .unset, .unset, .unset, .unset, .unset, .unset, .unset] [(.int (1 : Int32))])) _
              refine XS.iconst X29.here hx rfl (hb hby at_102) ?_
              show Steps p.tables e below (T29.setTop (mkF m 103 #[.val (.int p1), .val (.int p2), .val (.int p3), .val (.int p4), .val (.int p5), .val (.int p6), .val (.ref r1), .val (.ref r2), .val (.int (1 : Int32)), .val (.ref b23), .val (.ref b26), .val (.int (1 : Int32)), .unset, .unset, .unset, .unset, .unset, .unset, .unset, .unset] [(.int (2 : Int32)), (.int (1 : Int32))])) _
              refine XS.icmpYes X29.here hx rfl (pc0 := 103) (pc' := 112) rfl (hb hby at_103) rfl (tlt (by decide)).1 (by decide) (by decide) ?_
              show Steps p.tables e below (T29.setTop (mkF m 112 #[.val (.int p1), .val (.int p2), .val (.int p3), .val (.int p4), .val (.int p5), .val (.int p6), .val (.ref r1), .val (.ref r2), .val (.int (1 : Int32)), .val (.ref b23), .val (.ref b26), .val (.int (1 : Int32)), .unset, .unset, .unset, .unset, .unset, .unset, .unset, .unset] [])) _
              refine XS.iload X29.here hx rfl (hb hby at_112) rfl ?_
              show Steps p.tables e below (T29.setTop (mkF m 114 #[.val (.int p1), .val (.int p2), .val (.int p3), .val (.int p4), .val (.int p5), .val (.int p6), .val (.ref r1), .val (.ref r2), .val (.int (1 : Int32)), .val (.ref b23), .val (.ref b26), .val (.int (1 : Int32)), .unset, .unset, .unset, .unset, .unset, .unset, .unset, .unset] [(.int (1 : Int32))])) _
              refine XS.iconst X29.here hx rfl (hb hby at_114) ?_
              show Steps p.tables e below (T29.setTop (mkF m 115 #[.val (.int p1), .val (.int p2), .val (.int p3), .val (.int p4), .val (.int p5), .val (.int p6), .val (.ref r1), .val (.ref r2), .val (.int (1 : Int32)), .val (.ref b23), .val (.ref b26), .val (.int (1 : Int32)), .unset, .unset, .unset, .unset, .unset, .unset, .unset, .unset] [(.int (3 : Int32)), (.int (1 : Int32))])) _
              refine XS.icmpYes X29.here hx rfl (pc0 := 115) (pc' := 124) rfl (hb hby at_115) rfl (tlt (by decide)).1 (by decide) (by decide) ?_
              show Steps p.tables e below (T29.setTop (mkF m 124 #[.val (.int p1), .val (.int p2), .val (.int p3), .val (.int p4), .val (.int p5), .val (.int p6), .val (.ref r1), .val (.ref r2), .val (.int (1 : Int32)), .val (.ref b23), .val (.ref b26), .val (.int (1 : Int32)), .unset, .unset, .unset, .unset, .unset, .unset, .unset, .unset] [])) _
              exact k
            exact hseg28 T29 _ _ T29.heap _ (1 : Int32) (X29.more (by decide) (by decide)) rfl N hS hk hZ hown O Gq1_0 Gq2_0 A23 Gq25_0 Gq25_1 Gq25_2 Gq25_3 A26 Gq27_0 Gq29_0 Gq29_1 Gq29_2 (by decide) (by decide)
          · by_cases mt_ : nm = (2 : Int32)
            · refine own_go (B := T27.setTop (mkF m 90 #[.val (.int p1), .val (.int p2), .val (.int p3), .val (.int p4), .val (.int p5), .val (.int p6), .val (.ref r1), .val (.ref r2), .val (.int (1 : Int32)), .val (.ref b23), .val (.ref b26), .val (.int nm), .unset, .unset, .unset, .unset, .unset, .unset, .unset, .unset] [(.int nm)])) (fun t k => ?_) ?_
              · show Steps p.tables e below (T27.setTop (mkF m 88 #[.val (.int p1), .val (.int p2), .val (.int p3), .val (.int p4), .val (.int p5), .val (.int p6), .val (.ref r1), .val (.ref r2), .val (.int (1 : Int32)), .val (.ref b23), .val (.ref b26), .val (.int nm), .unset, .unset, .unset, .unset, .unset, .unset, .unset, .unset] [])) _
                refine XS.iload X27.here hx rfl (hb hby at_88) rfl ?_
                show Steps p.tables e below (T27.setTop (mkF m 90 #[.val (.int p1), .val (.int p2), .val (.int p3), .val (.int p4), .val (.int p5), .val (.int p6), .val (.ref r1), .val (.ref r2), .val (.int (1 : Int32)), .val (.ref b23), .val (.ref b26), .val (.int nm), .unset, .unset, .unset, .unset, .unset, .unset, .unset, .unset] [(.int nm)])) _
                exact k
              subst mt_
              refine own_go (B := T27.setTop (mkF m 96 #[.val (.int p1), .val (.int p2), .val (.int p3), .val (.int p4), .val (.int p5), .val (.int p6), .val (.ref r1), .val (.ref r2), .val (.int (1 : Int32)), .val (.ref b23), .val (.ref b26), .val (.int (2 : Int32)), .unset, .unset, .unset, .unset, .unset, .unset, .unset, .unset] [(.ref b26)])) (fun t k => ?_) ?_
              · show Steps p.tables e below (T27.setTop (mkF m 90 #[.val (.int p1), .val (.int p2), .val (.int p3), .val (.int p4), .val (.int p5), .val (.int p6), .val (.ref r1), .val (.ref r2), .val (.int (1 : Int32)), .val (.ref b23), .val (.ref b26), .val (.int (2 : Int32)), .unset, .unset, .unset, .unset, .unset, .unset, .unset, .unset] [(.int (2 : Int32))])) _
                refine XS.iconst X27.here hx rfl (hb hby at_90) ?_
                show Steps p.tables e below (T27.setTop (mkF m 91 #[.val (.int p1), .val (.int p2), .val (.int p3), .val (.int p4), .val (.int p5), .val (.int p6), .val (.ref r1), .val (.ref r2), .val (.int (1 : Int32)), .val (.ref b23), .val (.ref b26), .val (.int (2 : Int32)), .unset, .unset, .unset, .unset, .unset, .unset, .unset, .unset] [(.int (1 : Int32)), (.int (2 : Int32))])) _
                refine XS.icmpNo X27.here hx rfl (hb hby at_91) rfl (flt (by decide)).1 ?_
                show Steps p.tables e below (T27.setTop (mkF m 94 #[.val (.int p1), .val (.int p2), .val (.int p3), .val (.int p4), .val (.int p5), .val (.int p6), .val (.ref r1), .val (.ref r2), .val (.int (1 : Int32)), .val (.ref b23), .val (.ref b26), .val (.int (2 : Int32)), .unset, .unset, .unset, .unset, .unset, .unset, .unset, .unset] [])) _
                refine XS.aload X27.here hx rfl (hb hby at_94) rfl rfl ?_
                show Steps p.tables e below (T27.setTop (mkF m 96 #[.val (.int p1), .val (.int p2), .val (.int p3), .val (.int p4), .val (.int p5), .val (.int p6), .val (.ref r1), .val (.ref r2), .val (.int (1 : Int32)), .val (.ref b23), .val (.ref b26), .val (.int (2 : Int32)), .unset, .unset, .unset, .unset, .unset, .unset, .unset, .unset] [(.ref b26)])) _
                exact k
              -- pc 96: com/example/nasute/nasute/sql/TokenCursor.next
              obtain ⟨cq30, kq30, q30a, q30b, q30c⟩ := isOf hZ rfl A26
              obtain ⟨_, _, ⟨T30, L30, k30, n30⟩, -, X30, ⟨Lc30, hQ30, l30, y30, z30⟩, st30⟩ := X27.virtualBackUp hx (x := (⟨"com/example/nasute/nasute/sql/TokenCursorIsTextEndPinLaw", "next", "()Lcom/example/nasute/nasute/sql/Token;"⟩ : MethodName)) (y := (⟨"com/example/nasute/nasute/sql/TokenCursor", "next", "()Lcom/example/nasute/nasute/sql/Token;"⟩ : MethodName)) hown (mvT hZ (hw _ (own_g (i := 169) rfl))) (mvT hZ (hw _ (own_g (i := 170) rfl))) (mvT hZ (hw _ (own_g (i := 171) rfl))) (by decide) (mvT hZ (hw _ (own_g (i := 173) rfl))) (mvT hZ (hw _ (own_g (i := 172) rfl))) (backOf (W := 0) (rmNx10 l Z a0 hw [] b26 b23 en27 da25 kda25 r1 T27.heap n0 O A26 Gq27_1 Gq27_2 Gq27_3 A23 Gq25_2 Gq25_1 Gq25_3 Gq1_0 (Nat.ne_of_lt lt_r1_en27) g_b26 (Nat.ne_of_lt lt_b23_b26) (Nat.ne_of_lt lt_da25_b26)) hZ (hw _ (own_g (i := 174) rfl)) (hw _ (own_g (i := 90) rfl)) (by decide) (by decide)) q30a q30c (g := (mkF m 96 #[.val (.int p1), .val (.int p2), .val (.int p3), .val (.int p4), .val (.int p5), .val (.int p6), .val (.ref r1), .val (.ref r2), .val (.int (1 : Int32)), .val (.ref b23), .val (.ref b26), .val (.int (2 : Int32)), .unset, .unset, .unset, .unset, .unset, .unset, .unset, .unset] [(.ref b26)])) rfl (by rw [hml]; rfl) (Steps.refl _) (argsL := []) (rest := []) (lenOf pd_16 rfl) rfl (by show 2 * 0 + _ ≤ _; exact Nat.le_of_eq rfl) (hb hby at_96) (fun _ hWm => ⟨rfl, rfl, (by decide : 12 + 0 ≤ _), (by decide : 42 + 0 ≤ _)⟩)
              dsimp only [Pt.U, Pt.locs, Pt.cells, Pt.slots] at X30 l30 y30 z30 st30 hQ30
              subst l30 y30 z30
              obtain ⟨r30, rfl, Nq30, Kq30, Gq30_0, Gq30_1, Gq30_2⟩ := hQ30
              replace N := Fr.app N Nq30
              replace Gq1_0 := Gq1_0.keep Kq30
              replace Gq2_0 := Gq2_0.keep Kq30
              replace A23 := A23.keep Kq30
              replace Gq25_0 := Gq25_0.keep Kq30 (ninS (Nat.ne_of_lt lt_b23_b26) nin0)
              replace Gq25_1 := Gq25_1.keep Kq30 (ninS (Nat.ne_of_lt lt_b23_b26) nin0)
              replace Gq25_2 := Gq25_2.keep Kq30 (ninS (Nat.ne_of_lt lt_b23_b26) nin0)
              replace Gq25_3 := Gq25_3.keep Kq30 (ninS (Nat.ne_of_lt lt_da25_b26) nin0)
              replace A26 := A26.keep Kq30
              replace Gq27_0 := Gq27_0.keep Kq30
              clear Gq27_1
              clear Gq27_2
              clear Gq27_3
              replace O := O.keep Kq30 (allS g_b26 all0)
              replace hk := Nat.le_trans hk Kq30.1
              refine own_go (B := T30.setTop (mkF m 99 #[.val (.int p1), .val (.int p2), .val (.int p3), .val (.int p4), .val (.int p5), .val (.int p6), .val (.ref r1), .val (.ref r2), .val (.int (1 : Int32)), .val (.ref b23), .val (.ref b26), .val (.int (2 : Int32)), .unset, .unset, .unset, .unset, .unset, .unset, .unset, .unset] [(.ref r30)])) (fun t k => st30.trans k) ?_
              refine own_go (B := T30.setTop (mkF m 108 #[.val (.int p1), .val (.int p2), .val (.int p3), .val (.int p4), .val (.int p5), .val (.int p6), .val (.ref r1), .val (.ref r2), .val (.int (1 : Int32)), .val (.ref b23), .val (.ref b26), .val (.int (2 : Int32)), .unset, .unset, .unset, .unset, .unset, .unset, .unset, .unset] [(.ref b26)])) (fun t k => ?_) ?_
              · show Steps p.tables e below (T30.setTop (mkF m 99 #[.val (.int p1), .val (.int p2), .val (.int p3), .val (.int p4), .val (.int p5), .val (.int p6), .val (.ref r1), .val (.ref r2), .val (.int (1 : Int32)), .val (.ref b23), .val (.ref b26), .val (.int (2 : Int32)), .unset, .unset, .unset, .unset, .unset, .unset, .unset, .unset] [(.ref r30)])) _
                refine XS.pop X30.here hx rfl (hb hby at_99) rfl rfl ?_
                show Steps p.tables e below (T30.setTop (mkF m 100 #[.val (.int p1), .val (.int p2), .val (.int p3), .val (.int p4), .val (.int p5), .val (.int p6), .val (.ref r1), .val (.ref r2), .val (.int (1 : Int32)), .val (.ref b23), .val (.ref b26), .val (.int (2 : Int32)), .unset, .unset, .unset, .unset, .unset, .unset, .unset, .unset] [])) _
                refine XS.iload X30.here hx rfl (hb hby at_100) rfl ?_
                show Steps p.tables e below (T30.setTop (mkF m 102 #[.val (.int p1), .val (.int p2), .val (.int p3), .val (.int p4), .val (.int p5), .val (.int p6), .val (.ref r1), .val (.ref r2), .val (.int (1 : Int32)), .val (.ref b23), .val (.ref b26), .val (.int (2 : Int32)), .unset, .unset, .unset, .unset, .unset, .unset, .unset, .unset] [(.int (2 : Int32))])) _
                refine XS.iconst X30.here hx rfl (hb hby at_102) ?_
                show Steps p.tables e below (T30.setTop (mkF m 103 #[.val (.int p1), .val (.int p2), .val (.int p3), .val (.int p4), .val (.int p5), .val (.int p6), .val (.ref r1), .val (.ref r2), .val (.int (1 : Int32)), .val (.ref b23), .val (.ref b26), .val (.int (2 : Int32)), .unset, .unset, .unset, .unset, .unset, .unset, .unset, .unset] [(.int (2 : Int32)), (.int (2 : Int32))])) _
                refine XS.icmpNo X30.here hx rfl (hb hby at_103) rfl (flt (by decide)).1 ?_
                show Steps p.tables e below (T30.setTop (mkF m 106 #[.val (.int p1), .val (.int p2), .val (.int p3), .val (.int p4), .val (.int p5), .val (.int p6), .val (.ref r1), .val (.ref r2), .val (.int (1 : Int32)), .val (.ref b23), .val (.ref b26), .val (.int (2 : Int32)), .unset, .unset, .unset, .unset, .unset, .unset, .unset, .unset] [])) _
                refine XS.aload X30.here hx rfl (hb hby at_106) rfl rfl ?_
                show Steps p.tables e below (T30.setTop (mkF m 108 #[.val (.int p1), .val (.int p2), .val (.int p3), .val (.int p4), .val (.int p5), .val (.int p6), .val (.ref r1), .val (.ref r2), .val (.int (1 : Int32)), .val (.ref b23), .val (.ref b26), .val (.int (2 : Int32)), .unset, .unset, .unset, .unset, .unset, .unset, .unset, .unset] [(.ref b26)])) _
                exact k
              -- pc 108: com/example/nasute/nasute/sql/TokenCursor.next
              obtain ⟨cq31, kq31, q31a, q31b, q31c⟩ := isOf hZ rfl A26
              obtain ⟨_, _, ⟨T31, L31, k31, n31⟩, -, X31, ⟨Lc31, hQ31, l31, y31, z31⟩, st31⟩ := X30.virtualBackUp hx (x := (⟨"com/example/nasute/nasute/sql/TokenCursorIsTextEndPinLaw", "next", "()Lcom/example/nasute/nasute/sql/Token;"⟩ : MethodName)) (y := (⟨"com/example/nasute/nasute/sql/TokenCursor", "next", "()Lcom/example/nasute/nasute/sql/Token;"⟩ : MethodName)) hown (mvT hZ (hw _ (own_g (i := 169) rfl))) (mvT hZ (hw _ (own_g (i := 170) rfl))) (mvT hZ (hw _ (own_g (i := 171) rfl))) (by decide) (mvT hZ (hw _ (own_g (i := 173) rfl))) (mvT hZ (hw _ (own_g (i := 172) rfl))) (backOf (W := 0) (rmNx11 l Z a0 hw [] b26 b23 en27 da25 kda25 r1 T30.heap n0 O A26 Gq30_0 Gq30_1 Gq30_2 A23 Gq25_2 Gq25_1 Gq25_3 Gq1_0 (Nat.ne_of_lt lt_r1_en27) g_b26 (Nat.ne_of_lt lt_b23_b26) (Nat.ne_of_lt lt_da25_b26)) hZ (hw _ (own_g (i := 174) rfl)) (hw _ (own_g (i := 90) rfl)) (by decide) (by decide)) q31a q31c (g := (mkF m 108 #[.val (.int p1), .val (.int p2), .val (.int p3), .val (.int p4), .val (.int p5), .val (.int p6), .val (.ref r1), .val (.ref r2), .val (.int (1 : Int32)), .val (.ref b23), .val (.ref b26), .val (.int (2 : Int32)), .unset, .unset, .unset, .unset, .unset, .unset, .unset, .unset] [(.ref b26)])) rfl (by rw [hml]; rfl) (Steps.refl _) (argsL := []) (rest := []) (lenOf pd_16 rfl) rfl (by show 2 * 0 + _ ≤ _; exact Nat.le_of_eq rfl) (hb hby at_108) (fun _ hWm => ⟨rfl, rfl, (by decide : 12 + 0 ≤ _), (by decide : 42 + 0 ≤ _)⟩)
              dsimp only [Pt.U, Pt.locs, Pt.cells, Pt.slots] at X31 l31 y31 z31 st31 hQ31
              subst l31 y31 z31
              obtain ⟨r31, rfl, Nq31, Kq31⟩ := hQ31
              replace N := Fr.app N Nq31
              refine own_go (B := T31.setTop (mkF m 111 #[.val (.int p1), .val (.int p2), .val (.int p3), .val (.int p4), .val (.int p5), .val (.int p6), .val (.ref r1), .val (.ref r2), .val (.int (1 : Int32)), .val (.ref b23), .val (.ref b26), .val (.int (2 : Int32)), .unset, .unset, .unset, .unset, .unset, .unset, .unset, .unset] [(.ref r31)])) (fun t k => st31.trans k) ?_
              refine own_go (B := T31.setTop (mkF m 124 #[.val (.int p1), .val (.int p2), .val (.int p3), .val (.int p4), .val (.int p5), .val (.int p6), .val (.ref r1), .val (.ref r2), .val (.int (1 : Int32)), .val (.ref b23), .val (.ref b26), .val (.int (2 : Int32)), .unset, .unset, .unset, .unset, .unset, .unset, .unset, .unset] [])) (fun t k => ?_) ?_
              · show Steps p.tables e below (T31.setTop (mkF m 111 #[.val (.int p1), .val (.int p2), .val (.int p3), .val (.int p4), .val (.int p5), .val (.int p6), .val (.ref r1), .val (.ref r2), .val (.int (1 : Int32)), .val (.ref b23), .val (.ref b26), .val (.int (2 : Int32)), .unset, .unset, .unset, .unset, .unset, .unset, .unset, .unset] [(.ref r31)])) _
                refine XS.pop X31.here hx rfl (hb hby at_111) rfl rfl ?_
                show Steps p.tables e below (T31.setTop (mkF m 112 #[.val (.int p1), .val (.int p2), .val (.int p3), .val (.int p4), .val (.int p5), .val (.int p6), .val (.ref r1), .val (.ref r2), .val (.int (1 : Int32)), .val (.ref b23), .val (.ref b26), .val (.int (2 : Int32)), .unset, .unset, .unset, .unset, .unset, .unset, .unset, .unset] [])) _
                refine XS.iload X31.here hx rfl (hb hby at_112) rfl ?_
                show Steps p.tables e below (T31.setTop (mkF m 114 #[.val (.int p1), .val (.int p2), .val (.int p3), .val (.int p4), .val (.int p5), .val (.int p6), .val (.ref r1), .val (.ref r2), .val (.int (1 : Int32)), .val (.ref b23), .val (.ref b26), .val (.int (2 : Int32)), .unset, .unset, .unset, .unset, .unset, .unset, .unset, .unset] [(.int (2 : Int32))])) _
                refine XS.iconst X31.here hx rfl (hb hby at_114) ?_
                show Steps p.tables e below (T31.setTop (mkF m 115 #[.val (.int p1), .val (.int p2), .val (.int p3), .val (.int p4), .val (.int p5), .val (.int p6), .val (.ref r1), .val (.ref r2), .val (.int (1 : Int32)), .val (.ref b23), .val (.ref b26), .val (.int (2 : Int32)), .unset, .unset, .unset, .unset, .unset, .unset, .unset, .unset] [(.int (3 : Int32)), (.int (2 : Int32))])) _
                refine XS.icmpYes X31.here hx rfl (pc0 := 115) (pc' := 124) rfl (hb hby at_115) rfl (tlt (by decide)).1 (by decide) (by decide) ?_
                show Steps p.tables e below (T31.setTop (mkF m 124 #[.val (.int p1), .val (.int p2), .val (.int p3), .val (.int p4), .val (.int p5), .val (.int p6), .val (.ref r1), .val (.ref r2), .val (.int (1 : Int32)), .val (.ref b23), .val (.ref b26), .val (.int (2 : Int32)), .unset, .unset, .unset, .unset, .unset, .unset, .unset, .unset] [])) _
                exact k
              exact hseg28 T31 _ _ T30.heap _ (1 : Int32) (X31.more (by decide) (by decide)) Kq31 N hS hk hZ hown O Gq1_0 Gq2_0 A23 Gq25_0 Gq25_1 Gq25_2 Gq25_3 A26 Gq27_0 Gq30_0 Gq30_1 Gq30_2 (by decide) (by decide)
            · refine own_go (B := T27.setTop (mkF m 90 #[.val (.int p1), .val (.int p2), .val (.int p3), .val (.int p4), .val (.int p5), .val (.int p6), .val (.ref r1), .val (.ref r2), .val (.int (1 : Int32)), .val (.ref b23), .val (.ref b26), .val (.int nm), .unset, .unset, .unset, .unset, .unset, .unset, .unset, .unset] [(.int nm)])) (fun t k => ?_) ?_
              · show Steps p.tables e below (T27.setTop (mkF m 88 #[.val (.int p1), .val (.int p2), .val (.int p3), .val (.int p4), .val (.int p5), .val (.int p6), .val (.ref r1), .val (.ref r2), .val (.int (1 : Int32)), .val (.ref b23), .val (.ref b26), .val (.int nm), .unset, .unset, .unset, .unset, .unset, .unset, .unset, .unset] [])) _
                refine XS.iload X27.here hx rfl (hb hby at_88) rfl ?_
                show Steps p.tables e below (T27.setTop (mkF m 90 #[.val (.int p1), .val (.int p2), .val (.int p3), .val (.int p4), .val (.int p5), .val (.int p6), .val (.ref r1), .val (.ref r2), .val (.int (1 : Int32)), .val (.ref b23), .val (.ref b26), .val (.int nm), .unset, .unset, .unset, .unset, .unset, .unset, .unset, .unset] [(.int nm)])) _
                exact k
              have mh_ : nm = (3 : Int32) := ((bnm.resolve_left mz_).resolve_left mo_).resolve_left mt_
              subst mh_
              refine own_go (B := T27.setTop (mkF m 96 #[.val (.int p1), .val (.int p2), .val (.int p3), .val (.int p4), .val (.int p5), .val (.int p6), .val (.ref r1), .val (.ref r2), .val (.int (1 : Int32)), .val (.ref b23), .val (.ref b26), .val (.int (3 : Int32)), .unset, .unset, .unset, .unset, .unset, .unset, .unset, .unset] [(.ref b26)])) (fun t k => ?_) ?_
              · show Steps p.tables e below (T27.setTop (mkF m 90 #[.val (.int p1), .val (.int p2), .val (.int p3), .val (.int p4), .val (.int p5), .val (.int p6), .val (.ref r1), .val (.ref r2), .val (.int (1 : Int32)), .val (.ref b23), .val (.ref b26), .val (.int (3 : Int32)), .unset, .unset, .unset, .unset, .unset, .unset, .unset, .unset] [(.int (3 : Int32))])) _
                refine XS.iconst X27.here hx rfl (hb hby at_90) ?_
                show Steps p.tables e below (T27.setTop (mkF m 91 #[.val (.int p1), .val (.int p2), .val (.int p3), .val (.int p4), .val (.int p5), .val (.int p6), .val (.ref r1), .val (.ref r2), .val (.int (1 : Int32)), .val (.ref b23), .val (.ref b26), .val (.int (3 : Int32)), .unset, .unset, .unset, .unset, .unset, .unset, .unset, .unset] [(.int (1 : Int32)), (.int (3 : Int32))])) _
                refine XS.icmpNo X27.here hx rfl (hb hby at_91) rfl (flt (by decide)).1 ?_
                show Steps p.tables e below (T27.setTop (mkF m 94 #[.val (.int p1), .val (.int p2), .val (.int p3), .val (.int p4), .val (.int p5), .val (.int p6), .val (.ref r1), .val (.ref r2), .val (.int (1 : Int32)), .val (.ref b23), .val (.ref b26), .val (.int (3 : Int32)), .unset, .unset, .unset, .unset, .unset, .unset, .unset, .unset] [])) _
                refine XS.aload X27.here hx rfl (hb hby at_94) rfl rfl ?_
                show Steps p.tables e below (T27.setTop (mkF m 96 #[.val (.int p1), .val (.int p2), .val (.int p3), .val (.int p4), .val (.int p5), .val (.int p6), .val (.ref r1), .val (.ref r2), .val (.int (1 : Int32)), .val (.ref b23), .val (.ref b26), .val (.int (3 : Int32)), .unset, .unset, .unset, .unset, .unset, .unset, .unset, .unset] [(.ref b26)])) _
                exact k
              -- pc 96: com/example/nasute/nasute/sql/TokenCursor.next
              obtain ⟨cq32, kq32, q32a, q32b, q32c⟩ := isOf hZ rfl A26
              obtain ⟨_, _, ⟨T32, L32, k32, n32⟩, -, X32, ⟨Lc32, hQ32, l32, y32, z32⟩, st32⟩ := X27.virtualBackUp hx (x := (⟨"com/example/nasute/nasute/sql/TokenCursorIsTextEndPinLaw", "next", "()Lcom/example/nasute/nasute/sql/Token;"⟩ : MethodName)) (y := (⟨"com/example/nasute/nasute/sql/TokenCursor", "next", "()Lcom/example/nasute/nasute/sql/Token;"⟩ : MethodName)) hown (mvT hZ (hw _ (own_g (i := 169) rfl))) (mvT hZ (hw _ (own_g (i := 170) rfl))) (mvT hZ (hw _ (own_g (i := 171) rfl))) (by decide) (mvT hZ (hw _ (own_g (i := 173) rfl))) (mvT hZ (hw _ (own_g (i := 172) rfl))) (backOf (W := 0) (rmNx10 l Z a0 hw [] b26 b23 en27 da25 kda25 r1 T27.heap n0 O A26 Gq27_1 Gq27_2 Gq27_3 A23 Gq25_2 Gq25_1 Gq25_3 Gq1_0 (Nat.ne_of_lt lt_r1_en27) g_b26 (Nat.ne_of_lt lt_b23_b26) (Nat.ne_of_lt lt_da25_b26)) hZ (hw _ (own_g (i := 174) rfl)) (hw _ (own_g (i := 90) rfl)) (by decide) (by decide)) q32a q32c (g := (mkF m 96 #[.val (.int p1), .val (.int p2), .val (.int p3), .val (.int p4), .val (.int p5), .val (.int p6), .val (.ref r1), .val (.ref r2), .val (.int (1 : Int32)), .val (.ref b23), .val (.ref b26), .val (.int (3 : Int32)), .unset, .unset, .unset, .unset, .unset, .unset, .unset, .unset] [(.ref b26)])) rfl (by rw [hml]; rfl) (Steps.refl _) (argsL := []) (rest := []) (lenOf pd_16 rfl) rfl (by show 2 * 0 + _ ≤ _; exact Nat.le_of_eq rfl) (hb hby at_96) (fun _ hWm => ⟨rfl, rfl, (by decide : 12 + 0 ≤ _), (by decide : 42 + 0 ≤ _)⟩)
              dsimp only [Pt.U, Pt.locs, Pt.cells, Pt.slots] at X32 l32 y32 z32 st32 hQ32
              subst l32 y32 z32
              obtain ⟨r32, rfl, Nq32, Kq32, Gq32_0, Gq32_1, Gq32_2⟩ := hQ32
              replace N := Fr.app N Nq32
              replace Gq1_0 := Gq1_0.keep Kq32
              replace Gq2_0 := Gq2_0.keep Kq32
              replace A23 := A23.keep Kq32
              replace Gq25_0 := Gq25_0.keep Kq32 (ninS (Nat.ne_of_lt lt_b23_b26) nin0)
              replace Gq25_1 := Gq25_1.keep Kq32 (ninS (Nat.ne_of_lt lt_b23_b26) nin0)
              replace Gq25_2 := Gq25_2.keep Kq32 (ninS (Nat.ne_of_lt lt_b23_b26) nin0)
              replace Gq25_3 := Gq25_3.keep Kq32 (ninS (Nat.ne_of_lt lt_da25_b26) nin0)
              replace A26 := A26.keep Kq32
              replace Gq27_0 := Gq27_0.keep Kq32
              clear Gq27_1
              clear Gq27_2
              clear Gq27_3
              replace O := O.keep Kq32 (allS g_b26 all0)
              replace hk := Nat.le_trans hk Kq32.1
              refine own_go (B := T32.setTop (mkF m 99 #[.val (.int p1), .val (.int p2), .val (.int p3), .val (.int p4), .val (.int p5), .val (.int p6), .val (.ref r1), .val (.ref r2), .val (.int (1 : Int32)), .val (.ref b23), .val (.ref b26), .val (.int (3 : Int32)), .unset, .unset, .unset, .unset, .unset, .unset, .unset, .unset] [(.ref r32)])) (fun t k => st32.trans k) ?_
              refine own_go (B := T32.setTop (mkF m 108 #[.val (.int p1), .val (.int p2), .val (.int p3), .val (.int p4), .val (.int p5), .val (.int p6), .val (.ref r1), .val (.ref r2), .val (.int (1 : Int32)), .val (.ref b23), .val (.ref b26), .val (.int (3 : Int32)), .unset, .unset, .unset, .unset, .unset, .unset, .unset, .unset] [(.ref b26)])) (fun t k => ?_) ?_
              · show Steps p.tables e below (T32.setTop (mkF m 99 #[.val (.int p1), .val (.int p2), .val (.int p3), .val (.int p4), .val (.int p5), .val (.int p6), .val (.ref r1), .val (.ref r2), .val (.int (1 : Int32)), .val (.ref b23), .val (.ref b26), .val (.int (3 : Int32)), .unset, .unset, .unset, .unset, .unset, .unset, .unset, .unset] [(.ref r32)])) _
                refine XS.pop X32.here hx rfl (hb hby at_99) rfl rfl ?_
                show Steps p.tables e below (T32.setTop (mkF m 100 #[.val (.int p1), .val (.int p2), .val (.int p3), .val (.int p4), .val (.int p5), .val (.int p6), .val (.ref r1), .val (.ref r2), .val (.int (1 : Int32)), .val (.ref b23), .val (.ref b26), .val (.int (3 : Int32)), .unset, .unset, .unset, .unset, .unset, .unset, .unset, .unset] [])) _
                refine XS.iload X32.here hx rfl (hb hby at_100) rfl ?_
                show Steps p.tables e below (T32.setTop (mkF m 102 #[.val (.int p1), .val (.int p2), .val (.int p3), .val (.int p4), .val (.int p5), .val (.int p6), .val (.ref r1), .val (.ref r2), .val (.int (1 : Int32)), .val (.ref b23), .val (.ref b26), .val (.int (3 : Int32)), .unset, .unset, .unset, .unset, .unset, .unset, .unset, .unset] [(.int (3 : Int32))])) _
                refine XS.iconst X32.here hx rfl (hb hby at_102) ?_
                show Steps p.tables e below (T32.setTop (mkF m 103 #[.val (.int p1), .val (.int p2), .val (.int p3), .val (.int p4), .val (.int p5), .val (.int p6), .val (.ref r1), .val (.ref r2), .val (.int (1 : Int32)), .val (.ref b23), .val (.ref b26), .val (.int (3 : Int32)), .unset, .unset, .unset, .unset, .unset, .unset, .unset, .unset] [(.int (2 : Int32)), (.int (3 : Int32))])) _
                refine XS.icmpNo X32.here hx rfl (hb hby at_103) rfl (flt (by decide)).1 ?_
                show Steps p.tables e below (T32.setTop (mkF m 106 #[.val (.int p1), .val (.int p2), .val (.int p3), .val (.int p4), .val (.int p5), .val (.int p6), .val (.ref r1), .val (.ref r2), .val (.int (1 : Int32)), .val (.ref b23), .val (.ref b26), .val (.int (3 : Int32)), .unset, .unset, .unset, .unset, .unset, .unset, .unset, .unset] [])) _
                refine XS.aload X32.here hx rfl (hb hby at_106) rfl rfl ?_
                show Steps p.tables e below (T32.setTop (mkF m 108 #[.val (.int p1), .val (.int p2), .val (.int p3), .val (.int p4), .val (.int p5), .val (.int p6), .val (.ref r1), .val (.ref r2), .val (.int (1 : Int32)), .val (.ref b23), .val (.ref b26), .val (.int (3 : Int32)), .unset, .unset, .unset, .unset, .unset, .unset, .unset, .unset] [(.ref b26)])) _
                exact k
              -- pc 108: com/example/nasute/nasute/sql/TokenCursor.next
              obtain ⟨cq33, kq33, q33a, q33b, q33c⟩ := isOf hZ rfl A26
              obtain ⟨_, _, ⟨T33, L33, k33, n33⟩, -, X33, ⟨Lc33, hQ33, l33, y33, z33⟩, st33⟩ := X32.virtualBackUp hx (x := (⟨"com/example/nasute/nasute/sql/TokenCursorIsTextEndPinLaw", "next", "()Lcom/example/nasute/nasute/sql/Token;"⟩ : MethodName)) (y := (⟨"com/example/nasute/nasute/sql/TokenCursor", "next", "()Lcom/example/nasute/nasute/sql/Token;"⟩ : MethodName)) hown (mvT hZ (hw _ (own_g (i := 169) rfl))) (mvT hZ (hw _ (own_g (i := 170) rfl))) (mvT hZ (hw _ (own_g (i := 171) rfl))) (by decide) (mvT hZ (hw _ (own_g (i := 173) rfl))) (mvT hZ (hw _ (own_g (i := 172) rfl))) (backOf (W := 0) (rmNx11 l Z a0 hw [] b26 b23 en27 da25 kda25 r1 T32.heap n0 O A26 Gq32_0 Gq32_1 Gq32_2 A23 Gq25_2 Gq25_1 Gq25_3 Gq1_0 (Nat.ne_of_lt lt_r1_en27) g_b26 (Nat.ne_of_lt lt_b23_b26) (Nat.ne_of_lt lt_da25_b26)) hZ (hw _ (own_g (i := 174) rfl)) (hw _ (own_g (i := 90) rfl)) (by decide) (by decide)) q33a q33c (g := (mkF m 108 #[.val (.int p1), .val (.int p2), .val (.int p3), .val (.int p4), .val (.int p5), .val (.int p6), .val (.ref r1), .val (.ref r2), .val (.int (1 : Int32)), .val (.ref b23), .val (.ref b26), .val (.int (3 : Int32)), .unset, .unset, .unset, .unset, .unset, .unset, .unset, .unset] [(.ref b26)])) rfl (by rw [hml]; rfl) (Steps.refl _) (argsL := []) (rest := []) (lenOf pd_16 rfl) rfl (by show 2 * 0 + _ ≤ _; exact Nat.le_of_eq rfl) (hb hby at_108) (fun _ hWm => ⟨rfl, rfl, (by decide : 12 + 0 ≤ _), (by decide : 42 + 0 ≤ _)⟩)
              dsimp only [Pt.U, Pt.locs, Pt.cells, Pt.slots] at X33 l33 y33 z33 st33 hQ33
              subst l33 y33 z33
              obtain ⟨r33, rfl, Nq33, Kq33⟩ := hQ33
              replace N := Fr.app N Nq33
              refine own_go (B := T33.setTop (mkF m 111 #[.val (.int p1), .val (.int p2), .val (.int p3), .val (.int p4), .val (.int p5), .val (.int p6), .val (.ref r1), .val (.ref r2), .val (.int (1 : Int32)), .val (.ref b23), .val (.ref b26), .val (.int (3 : Int32)), .unset, .unset, .unset, .unset, .unset, .unset, .unset, .unset] [(.ref r33)])) (fun t k => st33.trans k) ?_
              refine own_go (B := T33.setTop (mkF m 120 #[.val (.int p1), .val (.int p2), .val (.int p3), .val (.int p4), .val (.int p5), .val (.int p6), .val (.ref r1), .val (.ref r2), .val (.int (1 : Int32)), .val (.ref b23), .val (.ref b26), .val (.int (3 : Int32)), .unset, .unset, .unset, .unset, .unset, .unset, .unset, .unset] [(.ref b26)])) (fun t k => ?_) ?_
              · show Steps p.tables e below (T33.setTop (mkF m 111 #[.val (.int p1), .val (.int p2), .val (.int p3), .val (.int p4), .val (.int p5), .val (.int p6), .val (.ref r1), .val (.ref r2), .val (.int (1 : Int32)), .val (.ref b23), .val (.ref b26), .val (.int (3 : Int32)), .unset, .unset, .unset, .unset, .unset, .unset, .unset, .unset] [(.ref r33)])) _
                refine XS.pop X33.here hx rfl (hb hby at_111) rfl rfl ?_
                show Steps p.tables e below (T33.setTop (mkF m 112 #[.val (.int p1), .val (.int p2), .val (.int p3), .val (.int p4), .val (.int p5), .val (.int p6), .val (.ref r1), .val (.ref r2), .val (.int (1 : Int32)), .val (.ref b23), .val (.ref b26), .val (.int (3 : Int32)), .unset, .unset, .unset, .unset, .unset, .unset, .unset, .unset] [])) _
                refine XS.iload X33.here hx rfl (hb hby at_112) rfl ?_
                show Steps p.tables e below (T33.setTop (mkF m 114 #[.val (.int p1), .val (.int p2), .val (.int p3), .val (.int p4), .val (.int p5), .val (.int p6), .val (.ref r1), .val (.ref r2), .val (.int (1 : Int32)), .val (.ref b23), .val (.ref b26), .val (.int (3 : Int32)), .unset, .unset, .unset, .unset, .unset, .unset, .unset, .unset] [(.int (3 : Int32))])) _
                refine XS.iconst X33.here hx rfl (hb hby at_114) ?_
                show Steps p.tables e below (T33.setTop (mkF m 115 #[.val (.int p1), .val (.int p2), .val (.int p3), .val (.int p4), .val (.int p5), .val (.int p6), .val (.ref r1), .val (.ref r2), .val (.int (1 : Int32)), .val (.ref b23), .val (.ref b26), .val (.int (3 : Int32)), .unset, .unset, .unset, .unset, .unset, .unset, .unset, .unset] [(.int (3 : Int32)), (.int (3 : Int32))])) _
                refine XS.icmpNo X33.here hx rfl (hb hby at_115) rfl (flt (by decide)).1 ?_
                show Steps p.tables e below (T33.setTop (mkF m 118 #[.val (.int p1), .val (.int p2), .val (.int p3), .val (.int p4), .val (.int p5), .val (.int p6), .val (.ref r1), .val (.ref r2), .val (.int (1 : Int32)), .val (.ref b23), .val (.ref b26), .val (.int (3 : Int32)), .unset, .unset, .unset, .unset, .unset, .unset, .unset, .unset] [])) _
                refine XS.aload X33.here hx rfl (hb hby at_118) rfl rfl ?_
                show Steps p.tables e below (T33.setTop (mkF m 120 #[.val (.int p1), .val (.int p2), .val (.int p3), .val (.int p4), .val (.int p5), .val (.int p6), .val (.ref r1), .val (.ref r2), .val (.int (1 : Int32)), .val (.ref b23), .val (.ref b26), .val (.int (3 : Int32)), .unset, .unset, .unset, .unset, .unset, .unset, .unset, .unset] [(.ref b26)])) _
                exact k
              -- pc 120: com/example/nasute/nasute/sql/TokenCursor.next
              obtain ⟨cq34, kq34, q34a, q34b, q34c⟩ := isOf hZ Kq33 A26
              obtain ⟨_, _, ⟨T34, L34, k34, n34⟩, -, X34, ⟨Lc34, hQ34, l34, y34, z34⟩, st34⟩ := X33.virtualBackUp hx (x := (⟨"com/example/nasute/nasute/sql/TokenCursorIsTextEndPinLaw", "next", "()Lcom/example/nasute/nasute/sql/Token;"⟩ : MethodName)) (y := (⟨"com/example/nasute/nasute/sql/TokenCursor", "next", "()Lcom/example/nasute/nasute/sql/Token;"⟩ : MethodName)) hown (mvT hZ (hw _ (own_g (i := 169) rfl))) (mvT hZ (hw _ (own_g (i := 170) rfl))) (mvT hZ (hw _ (own_g (i := 171) rfl))) (by decide) (mvT hZ (hw _ (own_g (i := 173) rfl))) (mvT hZ (hw _ (own_g (i := 172) rfl))) (backOf (W := 0) (rmNx11 l Z a0 hw [] b26 b23 en27 da25 kda25 r1 T32.heap n0 O A26 Gq32_0 Gq32_1 Gq32_2 A23 Gq25_2 Gq25_1 Gq25_3 Gq1_0 (Nat.ne_of_lt lt_r1_en27) g_b26 (Nat.ne_of_lt lt_b23_b26) (Nat.ne_of_lt lt_da25_b26)) hZ (hw _ (own_g (i := 174) rfl)) (hw _ (own_g (i := 90) rfl)) (by decide) (by decide)) q34a q34c (g := (mkF m 120 #[.val (.int p1), .val (.int p2), .val (.int p3), .val (.int p4), .val (.int p5), .val (.int p6), .val (.ref r1), .val (.ref r2), .val (.int (1 : Int32)), .val (.ref b23), .val (.ref b26), .val (.int (3 : Int32)), .unset, .unset, .unset, .unset, .unset, .unset, .unset, .unset] [(.ref b26)])) rfl (by rw [hml]; rfl) (Steps.refl _) (argsL := []) (rest := []) (lenOf pd_16 rfl) rfl (by show 2 * 0 + _ ≤ _; exact Nat.le_of_eq rfl) (hb hby at_120) (fun _ hWm => ⟨rfl, Kq33, (by decide : 12 + 0 ≤ _), (by decide : 42 + 0 ≤ _)⟩)
              dsimp only [Pt.U, Pt.locs, Pt.cells, Pt.slots] at X34 l34 y34 z34 st34 hQ34
              subst l34 y34 z34
              obtain ⟨r34, rfl, Nq34, Kq34⟩ := hQ34
              replace N := Fr.app N Nq34
              refine own_go (B := T34.setTop (mkF m 123 #[.val (.int p1), .val (.int p2), .val (.int p3), .val (.int p4), .val (.int p5), .val (.int p6), .val (.ref r1), .val (.ref r2), .val (.int (1 : Int32)), .val (.ref b23), .val (.ref b26), .val (.int (3 : Int32)), .unset, .unset, .unset, .unset, .unset, .unset, .unset, .unset] [(.ref r34)])) (fun t k => st34.trans k) ?_
              refine own_go (B := T34.setTop (mkF m 124 #[.val (.int p1), .val (.int p2), .val (.int p3), .val (.int p4), .val (.int p5), .val (.int p6), .val (.ref r1), .val (.ref r2), .val (.int (1 : Int32)), .val (.ref b23), .val (.ref b26), .val (.int (3 : Int32)), .unset, .unset, .unset, .unset, .unset, .unset, .unset, .unset] [])) (fun t k => ?_) ?_
              · show Steps p.tables e below (T34.setTop (mkF m 123 #[.val (.int p1), .val (.int p2), .val (.int p3), .val (.int p4), .val (.int p5), .val (.int p6), .val (.ref r1), .val (.ref r2), .val (.int (1 : Int32)), .val (.ref b23), .val (.ref b26), .val (.int (3 : Int32)), .unset, .unset, .unset, .unset, .unset, .unset, .unset, .unset] [(.ref r34)])) _
                refine XS.pop X34.here hx rfl (hb hby at_123) rfl rfl ?_
                show Steps p.tables e below (T34.setTop (mkF m 124 #[.val (.int p1), .val (.int p2), .val (.int p3), .val (.int p4), .val (.int p5), .val (.int p6), .val (.ref r1), .val (.ref r2), .val (.int (1 : Int32)), .val (.ref b23), .val (.ref b26), .val (.int (3 : Int32)), .unset, .unset, .unset, .unset, .unset, .unset, .unset, .unset] [])) _
                exact k
              exact hseg28 T34 _ _ T32.heap _ (1 : Int32) (X34.more (by decide) (by decide)) Kq34 N hS hk hZ hown O Gq1_0 Gq2_0 A23 Gq25_0 Gq25_1 Gq25_2 Gq25_3 A26 Gq27_0 Gq32_0 Gq32_1 Gq32_2 (by decide) (by decide)
      intro T28 vm28 kk28 h28 L28 av28 X28 e28 N hS hk hZ hown O Gq1_0 Gq2_0 A23 Gq25_0 Gq25_1 Gq25_2 Gq25_3 A26 Gq27_0 Gq27_1 Gq27_2 Sg28_0 sc28_0 sc28_1
      refine own_go (B := T28.setTop (mkF m 128 #[.val (.int p1), .val (.int p2), .val (.int p3), .val (.int p4), .val (.int p5), .val (.int p6), .val (.ref r1), .val (.ref r2), .val (.int (1 : Int32)), .val (.ref b23), .val (.ref b26), .val (.int nm), .unset, .unset, .unset, .unset, .unset, .unset, .unset, .unset] [(.int (1 : Int32)), (.int nm)])) (fun t k => ?_) ?_
      · show Steps p.tables e below (T28.setTop (mkF m 124 #[.val (.int p1), .val (.int p2), .val (.int p3), .val (.int p4), .val (.int p5), .val (.int p6), .val (.ref r1), .val (.ref r2), .val (.int (1 : Int32)), .val (.ref b23), .val (.ref b26), .val (.int nm), .unset, .unset, .unset, .unset, .unset, .unset, .unset, .unset] [])) _
        refine XS.iload X28.here hx rfl (hb hby at_124) rfl ?_
        show Steps p.tables e below (T28.setTop (mkF m 126 #[.val (.int p1), .val (.int p2), .val (.int p3), .val (.int p4), .val (.int p5), .val (.int p6), .val (.ref r1), .val (.ref r2), .val (.int (1 : Int32)), .val (.ref b23), .val (.ref b26), .val (.int nm), .unset, .unset, .unset, .unset, .unset, .unset, .unset, .unset] [(.int nm)])) _
        refine XS.iload X28.here hx rfl (hb hby at_126) rfl ?_
        show Steps p.tables e below (T28.setTop (mkF m 128 #[.val (.int p1), .val (.int p2), .val (.int p3), .val (.int p4), .val (.int p5), .val (.int p6), .val (.ref r1), .val (.ref r2), .val (.int (1 : Int32)), .val (.ref b23), .val (.ref b26), .val (.int nm), .unset, .unset, .unset, .unset, .unset, .unset, .unset, .unset] [(.int (1 : Int32)), (.int nm)])) _
        exact k
      -- pc 128: java/lang/Math.min
      obtain ⟨_, _, ⟨T35, L35, k35, n35⟩, -, X35, ⟨Lc35, hQ35, l35, y35, z35⟩, st35⟩ := Jvm.LawKit.callS X28 hx (y := (⟨"java/lang/Math", "min", "(II)I"⟩ : MethodName)) hown (mvT hZ (hw _ (own_g (i := 104) rfl))) (mvT hZ (hw _ (own_g (i := 105) rfl))) (mvT hZ (hw _ (own_g (i := 106) rfl))) (mvT hZ (hw _ (own_g (i := 107) rfl))) (by decide) (backOf (W := 0) (rmMin l Z a0 hw [] nm (1 : Int32) h28 n0 O ) hZ (hw _ (own_g (i := 107) rfl)) (hw _ (own_g (i := 106) rfl)) (by decide) (by decide)) (g := (mkF m 128 #[.val (.int p1), .val (.int p2), .val (.int p3), .val (.int p4), .val (.int p5), .val (.int p6), .val (.ref r1), .val (.ref r2), .val (.int (1 : Int32)), .val (.ref b23), .val (.ref b26), .val (.int nm), .unset, .unset, .unset, .unset, .unset, .unset, .unset, .unset] [(.int (1 : Int32)), (.int nm)])) rfl (by rw [hml]; rfl) (argsL := [(.int nm), (.int (1 : Int32))]) (rest := []) (lenOf pd_7 rfl) rfl (by show 2 * 0 + _ ≤ _; exact Nat.le_of_eq rfl) (hb hby at_128) (fun _ hWm => ⟨rfl, e28, (by decide : 12 + 0 ≤ _), (by decide : 42 + 0 ≤ _)⟩)
      dsimp only [Pt.U, Pt.locs, Pt.cells, Pt.slots] at X35 l35 y35 z35 st35 hQ35
      subst l35 y35 z35
      obtain ⟨b35, rfl, Nq35, Kq35, cq35_0⟩ := hQ35
      replace N := Fr.app N Nq35
      refine own_go (B := T35.setTop (mkF m 131 #[.val (.int p1), .val (.int p2), .val (.int p3), .val (.int p4), .val (.int p5), .val (.int p6), .val (.ref r1), .val (.ref r2), .val (.int (1 : Int32)), .val (.ref b23), .val (.ref b26), .val (.int nm), .unset, .unset, .unset, .unset, .unset, .unset, .unset, .unset] [(.int b35)])) st35 ?_
      have hmn : av28 = b35 := (cq35_0.trans sc28_0.symm).symm
      subst hmn
      refine own_go (B := T35.setTop (mkF m 133 #[.val (.int p1), .val (.int p2), .val (.int p3), .val (.int p4), .val (.int p5), .val (.int p6), .val (.ref r1), .val (.ref r2), .val (.int (1 : Int32)), .val (.ref b23), .val (.ref b26), .val (.int nm), .val (.int av28), .unset, .unset, .unset, .unset, .unset, .unset, .unset] [])) (fun t k => ?_) ?_
      · show Steps p.tables e below (T35.setTop (mkF m 131 #[.val (.int p1), .val (.int p2), .val (.int p3), .val (.int p4), .val (.int p5), .val (.int p6), .val (.ref r1), .val (.ref r2), .val (.int (1 : Int32)), .val (.ref b23), .val (.ref b26), .val (.int nm), .unset, .unset, .unset, .unset, .unset, .unset, .unset, .unset] [(.int av28)])) _
        refine XS.istore X35.here hx rfl (hb hby at_131) rfl (l' := #[.val (.int p1), .val (.int p2), .val (.int p3), .val (.int p4), .val (.int p5), .val (.int p6), .val (.ref r1), .val (.ref r2), .val (.int (1 : Int32)), .val (.ref b23), .val (.ref b26), .val (.int nm), .val (.int av28), .unset, .unset, .unset, .unset, .unset, .unset, .unset]) rfl ?_
        show Steps p.tables e below (T35.setTop (mkF m 133 #[.val (.int p1), .val (.int p2), .val (.int p3), .val (.int p4), .val (.int p5), .val (.int p6), .val (.ref r1), .val (.ref r2), .val (.int (1 : Int32)), .val (.ref b23), .val (.ref b26), .val (.int nm), .val (.int av28), .unset, .unset, .unset, .unset, .unset, .unset, .unset] [])) _
        exact k
      suffices hseg36 : ∀ (T36 : State) (vm36 : Vm) (kk36 : Nat) (L36 : List Loc) (xe36 : Int32), Stand p l e room_1 (s.setVm vm36) m #[(.int p1), (.int p2), (.int p3), (.int p4), (.int p5), (.int p6)] below meth c T36 L36 12 42 → T36.heap = h28 → Fr n0 L36 → s.Since vm36 kk36 → kk36 ≤ h28.size → Z.Warmed39 (s.setVm vm36).vm → (s.setVm vm36).vm.findClass "com/example/nasute/nasute/sql/TokenCursorIsTextEndPinLaw" = some m.cls → (own_in (av28 + p2) (1 : Int32) → xe36 = (0 : Int32)) → (¬ own_in (av28 + p2) (1 : Int32) → xe36 = (1 : Int32)) → ∃ s₂ o, Steps p.tables e below (T36.setTop (mkF m 164 #[.val (.int p1), .val (.int p2), .val (.int p3), .val (.int p4), .val (.int p5), .val (.int p6), .val (.ref r1), .val (.ref r2), .val (.int (1 : Int32)), .val (.ref b23), .val (.ref b26), .val (.int nm), .val (.int av28), .val (.long ((av28.toInt64) + (p2.toInt64))), .second, .val (.int xe36), .unset, .unset, .unset, .unset] [])) s₂ ∧ P s₂ o by
        by_cases gi : own_in (av28 + p2) (1 : Int32)
        · refine own_go (B := T35.setTop (mkF m 164 #[.val (.int p1), .val (.int p2), .val (.int p3), .val (.int p4), .val (.int p5), .val (.int p6), .val (.ref r1), .val (.ref r2), .val (.int (1 : Int32)), .val (.ref b23), .val (.ref b26), .val (.int nm), .val (.int av28), .val (.long ((av28.toInt64) + (p2.toInt64))), .second, .val (.int (0 : Int32)), .unset, .unset, .unset, .unset] [])) (fun t k => ?_) ?_
          · show Steps p.tables e below (T35.setTop (mkF m 133 #[.val (.int p1), .val (.int p2), .val (.int p3), .val (.int p4), .val (.int p5), .val (.int p6), .val (.ref r1), .val (.ref r2), .val (.int (1 : Int32)), .val (.ref b23), .val (.ref b26), .val (.int nm), .val (.int av28), .unset, .unset, .unset, .unset, .unset, .unset, .unset] [])) _
            refine XS.iload X35.here hx rfl (hb hby at_133) rfl ?_
            show Steps p.tables e below (T35.setTop (mkF m 135 #[.val (.int p1), .val (.int p2), .val (.int p3), .val (.int p4), .val (.int p5), .val (.int p6), .val (.ref r1), .val (.ref r2), .val (.int (1 : Int32)), .val (.ref b23), .val (.ref b26), .val (.int nm), .val (.int av28), .unset, .unset, .unset, .unset, .unset, .unset, .unset] [(.int av28)])) _
            refine XS.i2l X35.here hx rfl (hb hby at_135) rfl ?_
            show Steps p.tables e below (T35.setTop (mkF m 136 #[.val (.int p1), .val (.int p2), .val (.int p3), .val (.int p4), .val (.int p5), .val (.int p6), .val (.ref r1), .val (.ref r2), .val (.int (1 : Int32)), .val (.ref b23), .val (.ref b26), .val (.int nm), .val (.int av28), .unset, .unset, .unset, .unset, .unset, .unset, .unset] [(.long (av28.toInt64))])) _
            refine XS.iloadN X35.here hx rfl (hb hby at_136) rfl ?_
            show Steps p.tables e below (T35.setTop (mkF m 137 #[.val (.int p1), .val (.int p2), .val (.int p3), .val (.int p4), .val (.int p5), .val (.int p6), .val (.ref r1), .val (.ref r2), .val (.int (1 : Int32)), .val (.ref b23), .val (.ref b26), .val (.int nm), .val (.int av28), .unset, .unset, .unset, .unset, .unset, .unset, .unset] [(.int p2), (.long (av28.toInt64))])) _
            refine XS.i2l X35.here hx rfl (hb hby at_137) rfl ?_
            show Steps p.tables e below (T35.setTop (mkF m 138 #[.val (.int p1), .val (.int p2), .val (.int p3), .val (.int p4), .val (.int p5), .val (.int p6), .val (.ref r1), .val (.ref r2), .val (.int (1 : Int32)), .val (.ref b23), .val (.ref b26), .val (.int nm), .val (.int av28), .unset, .unset, .unset, .unset, .unset, .unset, .unset] [(.long (p2.toInt64)), (.long (av28.toInt64))])) _
            refine XS.ladd X35.here hx rfl (hb hby at_138) rfl ?_
            show Steps p.tables e below (T35.setTop (mkF m 139 #[.val (.int p1), .val (.int p2), .val (.int p3), .val (.int p4), .val (.int p5), .val (.int p6), .val (.ref r1), .val (.ref r2), .val (.int (1 : Int32)), .val (.ref b23), .val (.ref b26), .val (.int nm), .val (.int av28), .unset, .unset, .unset, .unset, .unset, .unset, .unset] [(.long ((av28.toInt64) + (p2.toInt64)))])) _
            refine XS.lstore X35.here hx rfl (hb hby at_139) rfl (l' := #[.val (.int p1), .val (.int p2), .val (.int p3), .val (.int p4), .val (.int p5), .val (.int p6), .val (.ref r1), .val (.ref r2), .val (.int (1 : Int32)), .val (.ref b23), .val (.ref b26), .val (.int nm), .val (.int av28), .val (.long ((av28.toInt64) + (p2.toInt64))), .second, .unset, .unset, .unset, .unset, .unset]) rfl ?_
            show Steps p.tables e below (T35.setTop (mkF m 141 #[.val (.int p1), .val (.int p2), .val (.int p3), .val (.int p4), .val (.int p5), .val (.int p6), .val (.ref r1), .val (.ref r2), .val (.int (1 : Int32)), .val (.ref b23), .val (.ref b26), .val (.int nm), .val (.int av28), .val (.long ((av28.toInt64) + (p2.toInt64))), .second, .unset, .unset, .unset, .unset, .unset] [])) _
            refine XS.lload X35.here hx rfl (hb hby at_141) rfl ?_
            show Steps p.tables e below (T35.setTop (mkF m 143 #[.val (.int p1), .val (.int p2), .val (.int p3), .val (.int p4), .val (.int p5), .val (.int p6), .val (.ref r1), .val (.ref r2), .val (.int (1 : Int32)), .val (.ref b23), .val (.ref b26), .val (.int nm), .val (.int av28), .val (.long ((av28.toInt64) + (p2.toInt64))), .second, .unset, .unset, .unset, .unset, .unset] [(.long ((av28.toInt64) + (p2.toInt64)))])) _
            refine XS.lconst X35.here hx rfl (hb hby at_143) ?_
            show Steps p.tables e below (T35.setTop (mkF m 144 #[.val (.int p1), .val (.int p2), .val (.int p3), .val (.int p4), .val (.int p5), .val (.int p6), .val (.ref r1), .val (.ref r2), .val (.int (1 : Int32)), .val (.ref b23), .val (.ref b26), .val (.int nm), .val (.int av28), .val (.long ((av28.toInt64) + (p2.toInt64))), .second, .unset, .unset, .unset, .unset, .unset] [(.long (0 : Int64)), (.long ((av28.toInt64) + (p2.toInt64)))])) _
            refine XS.lcmp X35.here hx rfl (hb hby at_144) rfl ?_
            show Steps p.tables e below (T35.setTop (mkF m 145 #[.val (.int p1), .val (.int p2), .val (.int p3), .val (.int p4), .val (.int p5), .val (.int p6), .val (.ref r1), .val (.ref r2), .val (.int (1 : Int32)), .val (.ref b23), .val (.ref b26), .val (.int nm), .val (.int av28), .val (.long ((av28.toInt64) + (p2.toInt64))), .second, .unset, .unset, .unset, .unset, .unset] [(.int (lcmpW ((av28.toInt64) + (p2.toInt64)) (0 : Int64)))])) _
            refine XS.ifNo X35.here hx rfl (hb hby at_145) rfl (XT.ll_lt_f ((own_idx (A := av28) (k := (1 : Int32)) (p := p2) sc28_1 (by decide)).mp gi).1) ?_
            show Steps p.tables e below (T35.setTop (mkF m 148 #[.val (.int p1), .val (.int p2), .val (.int p3), .val (.int p4), .val (.int p5), .val (.int p6), .val (.ref r1), .val (.ref r2), .val (.int (1 : Int32)), .val (.ref b23), .val (.ref b26), .val (.int nm), .val (.int av28), .val (.long ((av28.toInt64) + (p2.toInt64))), .second, .unset, .unset, .unset, .unset, .unset] [])) _
            refine XS.lload X35.here hx rfl (hb hby at_148) rfl ?_
            show Steps p.tables e below (T35.setTop (mkF m 150 #[.val (.int p1), .val (.int p2), .val (.int p3), .val (.int p4), .val (.int p5), .val (.int p6), .val (.ref r1), .val (.ref r2), .val (.int (1 : Int32)), .val (.ref b23), .val (.ref b26), .val (.int nm), .val (.int av28), .val (.long ((av28.toInt64) + (p2.toInt64))), .second, .unset, .unset, .unset, .unset, .unset] [(.long ((av28.toInt64) + (p2.toInt64)))])) _
            refine XS.iload X35.here hx rfl (hb hby at_150) rfl ?_
            show Steps p.tables e below (T35.setTop (mkF m 152 #[.val (.int p1), .val (.int p2), .val (.int p3), .val (.int p4), .val (.int p5), .val (.int p6), .val (.ref r1), .val (.ref r2), .val (.int (1 : Int32)), .val (.ref b23), .val (.ref b26), .val (.int nm), .val (.int av28), .val (.long ((av28.toInt64) + (p2.toInt64))), .second, .unset, .unset, .unset, .unset, .unset] [(.int (1 : Int32)), (.long ((av28.toInt64) + (p2.toInt64)))])) _
            refine XS.i2l X35.here hx rfl (hb hby at_152) rfl ?_
            show Steps p.tables e below (T35.setTop (mkF m 153 #[.val (.int p1), .val (.int p2), .val (.int p3), .val (.int p4), .val (.int p5), .val (.int p6), .val (.ref r1), .val (.ref r2), .val (.int (1 : Int32)), .val (.ref b23), .val (.ref b26), .val (.int nm), .val (.int av28), .val (.long ((av28.toInt64) + (p2.toInt64))), .second, .unset, .unset, .unset, .unset, .unset] [(.long ((1 : Int32).toInt64)), (.long ((av28.toInt64) + (p2.toInt64)))])) _
            refine XS.lcmp X35.here hx rfl (hb hby at_153) rfl ?_
            show Steps p.tables e below (T35.setTop (mkF m 154 #[.val (.int p1), .val (.int p2), .val (.int p3), .val (.int p4), .val (.int p5), .val (.int p6), .val (.ref r1), .val (.ref r2), .val (.int (1 : Int32)), .val (.ref b23), .val (.ref b26), .val (.int nm), .val (.int av28), .val (.long ((av28.toInt64) + (p2.toInt64))), .second, .unset, .unset, .unset, .unset, .unset] [(.int (lcmpW ((av28.toInt64) + (p2.toInt64)) ((1 : Int32).toInt64)))])) _
            refine XS.ifYes X35.here hx rfl (pc0 := 154) (pc' := 161) rfl (hb hby at_154) rfl (XT.ll_lt_t ((own_idx (A := av28) (k := (1 : Int32)) (p := p2) sc28_1 (by decide)).mp gi).2) (by decide) (by decide) ?_
            show Steps p.tables e below (T35.setTop (mkF m 161 #[.val (.int p1), .val (.int p2), .val (.int p3), .val (.int p4), .val (.int p5), .val (.int p6), .val (.ref r1), .val (.ref r2), .val (.int (1 : Int32)), .val (.ref b23), .val (.ref b26), .val (.int nm), .val (.int av28), .val (.long ((av28.toInt64) + (p2.toInt64))), .second, .unset, .unset, .unset, .unset, .unset] [])) _
            refine XS.iconst X35.here hx rfl (hb hby at_161) ?_
            show Steps p.tables e below (T35.setTop (mkF m 162 #[.val (.int p1), .val (.int p2), .val (.int p3), .val (.int p4), .val (.int p5), .val (.int p6), .val (.ref r1), .val (.ref r2), .val (.int (1 : Int32)), .val (.ref b23), .val (.ref b26), .val (.int nm), .val (.int av28), .val (.long ((av28.toInt64) + (p2.toInt64))), .second, .unset, .unset, .unset, .unset, .unset] [(.int (0 : Int32))])) _
            refine XS.istore X35.here hx rfl (hb hby at_162) rfl (l' := #[.val (.int p1), .val (.int p2), .val (.int p3), .val (.int p4), .val (.int p5), .val (.int p6), .val (.ref r1), .val (.ref r2), .val (.int (1 : Int32)), .val (.ref b23), .val (.ref b26), .val (.int nm), .val (.int av28), .val (.long ((av28.toInt64) + (p2.toInt64))), .second, .val (.int (0 : Int32)), .unset, .unset, .unset, .unset]) rfl ?_
            show Steps p.tables e below (T35.setTop (mkF m 164 #[.val (.int p1), .val (.int p2), .val (.int p3), .val (.int p4), .val (.int p5), .val (.int p6), .val (.ref r1), .val (.ref r2), .val (.int (1 : Int32)), .val (.ref b23), .val (.ref b26), .val (.int nm), .val (.int av28), .val (.long ((av28.toInt64) + (p2.toInt64))), .second, .val (.int (0 : Int32)), .unset, .unset, .unset, .unset] [])) _
            exact k
          exact hseg36 T35 _ _ _ (0 : Int32) (X35.more (by decide) (by decide)) Kq35 N hS hk hZ hown (fun _ => rfl) (fun qq_ => absurd gi qq_)
        · refine own_go (B := T35.setTop (mkF m 145 #[.val (.int p1), .val (.int p2), .val (.int p3), .val (.int p4), .val (.int p5), .val (.int p6), .val (.ref r1), .val (.ref r2), .val (.int (1 : Int32)), .val (.ref b23), .val (.ref b26), .val (.int nm), .val (.int av28), .val (.long ((av28.toInt64) + (p2.toInt64))), .second, .unset, .unset, .unset, .unset, .unset] [(.int (lcmpW ((av28.toInt64) + (p2.toInt64)) (0 : Int64)))])) (fun t k => ?_) ?_
          · show Steps p.tables e below (T35.setTop (mkF m 133 #[.val (.int p1), .val (.int p2), .val (.int p3), .val (.int p4), .val (.int p5), .val (.int p6), .val (.ref r1), .val (.ref r2), .val (.int (1 : Int32)), .val (.ref b23), .val (.ref b26), .val (.int nm), .val (.int av28), .unset, .unset, .unset, .unset, .unset, .unset, .unset] [])) _
            refine XS.iload X35.here hx rfl (hb hby at_133) rfl ?_
            show Steps p.tables e below (T35.setTop (mkF m 135 #[.val (.int p1), .val (.int p2), .val (.int p3), .val (.int p4), .val (.int p5), .val (.int p6), .val (.ref r1), .val (.ref r2), .val (.int (1 : Int32)), .val (.ref b23), .val (.ref b26), .val (.int nm), .val (.int av28), .unset, .unset, .unset, .unset, .unset, .unset, .unset] [(.int av28)])) _
            refine XS.i2l X35.here hx rfl (hb hby at_135) rfl ?_
            show Steps p.tables e below (T35.setTop (mkF m 136 #[.val (.int p1), .val (.int p2), .val (.int p3), .val (.int p4), .val (.int p5), .val (.int p6), .val (.ref r1), .val (.ref r2), .val (.int (1 : Int32)), .val (.ref b23), .val (.ref b26), .val (.int nm), .val (.int av28), .unset, .unset, .unset, .unset, .unset, .unset, .unset] [(.long (av28.toInt64))])) _
            refine XS.iloadN X35.here hx rfl (hb hby at_136) rfl ?_
            show Steps p.tables e below (T35.setTop (mkF m 137 #[.val (.int p1), .val (.int p2), .val (.int p3), .val (.int p4), .val (.int p5), .val (.int p6), .val (.ref r1), .val (.ref r2), .val (.int (1 : Int32)), .val (.ref b23), .val (.ref b26), .val (.int nm), .val (.int av28), .unset, .unset, .unset, .unset, .unset, .unset, .unset] [(.int p2), (.long (av28.toInt64))])) _
            refine XS.i2l X35.here hx rfl (hb hby at_137) rfl ?_
            show Steps p.tables e below (T35.setTop (mkF m 138 #[.val (.int p1), .val (.int p2), .val (.int p3), .val (.int p4), .val (.int p5), .val (.int p6), .val (.ref r1), .val (.ref r2), .val (.int (1 : Int32)), .val (.ref b23), .val (.ref b26), .val (.int nm), .val (.int av28), .unset, .unset, .unset, .unset, .unset, .unset, .unset] [(.long (p2.toInt64)), (.long (av28.toInt64))])) _
            refine XS.ladd X35.here hx rfl (hb hby at_138) rfl ?_
            show Steps p.tables e below (T35.setTop (mkF m 139 #[.val (.int p1), .val (.int p2), .val (.int p3), .val (.int p4), .val (.int p5), .val (.int p6), .val (.ref r1), .val (.ref r2), .val (.int (1 : Int32)), .val (.ref b23), .val (.ref b26), .val (.int nm), .val (.int av28), .unset, .unset, .unset, .unset, .unset, .unset, .unset] [(.long ((av28.toInt64) + (p2.toInt64)))])) _
            refine XS.lstore X35.here hx rfl (hb hby at_139) rfl (l' := #[.val (.int p1), .val (.int p2), .val (.int p3), .val (.int p4), .val (.int p5), .val (.int p6), .val (.ref r1), .val (.ref r2), .val (.int (1 : Int32)), .val (.ref b23), .val (.ref b26), .val (.int nm), .val (.int av28), .val (.long ((av28.toInt64) + (p2.toInt64))), .second, .unset, .unset, .unset, .unset, .unset]) rfl ?_
            show Steps p.tables e below (T35.setTop (mkF m 141 #[.val (.int p1), .val (.int p2), .val (.int p3), .val (.int p4), .val (.int p5), .val (.int p6), .val (.ref r1), .val (.ref r2), .val (.int (1 : Int32)), .val (.ref b23), .val (.ref b26), .val (.int nm), .val (.int av28), .val (.long ((av28.toInt64) + (p2.toInt64))), .second, .unset, .unset, .unset, .unset, .unset] [])) _
            refine XS.lload X35.here hx rfl (hb hby at_141) rfl ?_
            show Steps p.tables e below (T35.setTop (mkF m 143 #[.val (.int p1), .val (.int p2), .val (.int p3), .val (.int p4), .val (.int p5), .val (.int p6), .val (.ref r1), .val (.ref r2), .val (.int (1 : Int32)), .val (.ref b23), .val (.ref b26), .val (.int nm), .val (.int av28), .val (.long ((av28.toInt64) + (p2.toInt64))), .second, .unset, .unset, .unset, .unset, .unset] [(.long ((av28.toInt64) + (p2.toInt64)))])) _
            refine XS.lconst X35.here hx rfl (hb hby at_143) ?_
            show Steps p.tables e below (T35.setTop (mkF m 144 #[.val (.int p1), .val (.int p2), .val (.int p3), .val (.int p4), .val (.int p5), .val (.int p6), .val (.ref r1), .val (.ref r2), .val (.int (1 : Int32)), .val (.ref b23), .val (.ref b26), .val (.int nm), .val (.int av28), .val (.long ((av28.toInt64) + (p2.toInt64))), .second, .unset, .unset, .unset, .unset, .unset] [(.long (0 : Int64)), (.long ((av28.toInt64) + (p2.toInt64)))])) _
            refine XS.lcmp X35.here hx rfl (hb hby at_144) rfl ?_
            show Steps p.tables e below (T35.setTop (mkF m 145 #[.val (.int p1), .val (.int p2), .val (.int p3), .val (.int p4), .val (.int p5), .val (.int p6), .val (.ref r1), .val (.ref r2), .val (.int (1 : Int32)), .val (.ref b23), .val (.ref b26), .val (.int nm), .val (.int av28), .val (.long ((av28.toInt64) + (p2.toInt64))), .second, .unset, .unset, .unset, .unset, .unset] [(.int (lcmpW ((av28.toInt64) + (p2.toInt64)) (0 : Int64)))])) _
            exact k
          by_cases s145 : ((av28.toInt64) + (p2.toInt64)) < (0 : Int64)
          · refine own_go (B := T35.setTop (mkF m 164 #[.val (.int p1), .val (.int p2), .val (.int p3), .val (.int p4), .val (.int p5), .val (.int p6), .val (.ref r1), .val (.ref r2), .val (.int (1 : Int32)), .val (.ref b23), .val (.ref b26), .val (.int nm), .val (.int av28), .val (.long ((av28.toInt64) + (p2.toInt64))), .second, .val (.int (1 : Int32)), .unset, .unset, .unset, .unset] [])) (fun t k => ?_) ?_
            · show Steps p.tables e below (T35.setTop (mkF m 145 #[.val (.int p1), .val (.int p2), .val (.int p3), .val (.int p4), .val (.int p5), .val (.int p6), .val (.ref r1), .val (.ref r2), .val (.int (1 : Int32)), .val (.ref b23), .val (.ref b26), .val (.int nm), .val (.int av28), .val (.long ((av28.toInt64) + (p2.toInt64))), .second, .unset, .unset, .unset, .unset, .unset] [(.int (lcmpW ((av28.toInt64) + (p2.toInt64)) (0 : Int64)))])) _
              refine XS.ifYes X35.here hx rfl (pc0 := 145) (pc' := 157) rfl (hb hby at_145) rfl (XT.ll_lt_t s145) (by decide) (by decide) ?_
              show Steps p.tables e below (T35.setTop (mkF m 157 #[.val (.int p1), .val (.int p2), .val (.int p3), .val (.int p4), .val (.int p5), .val (.int p6), .val (.ref r1), .val (.ref r2), .val (.int (1 : Int32)), .val (.ref b23), .val (.ref b26), .val (.int nm), .val (.int av28), .val (.long ((av28.toInt64) + (p2.toInt64))), .second, .unset, .unset, .unset, .unset, .unset] [])) _
              refine XS.iconst X35.here hx rfl (hb hby at_157) ?_
              show Steps p.tables e below (T35.setTop (mkF m 158 #[.val (.int p1), .val (.int p2), .val (.int p3), .val (.int p4), .val (.int p5), .val (.int p6), .val (.ref r1), .val (.ref r2), .val (.int (1 : Int32)), .val (.ref b23), .val (.ref b26), .val (.int nm), .val (.int av28), .val (.long ((av28.toInt64) + (p2.toInt64))), .second, .unset, .unset, .unset, .unset, .unset] [(.int (1 : Int32))])) _
              refine XS.goto X35.here hx rfl (pc0 := 158) (pc' := 162) rfl (hb hby at_158) (by decide) (by decide) ?_
              show Steps p.tables e below (T35.setTop (mkF m 162 #[.val (.int p1), .val (.int p2), .val (.int p3), .val (.int p4), .val (.int p5), .val (.int p6), .val (.ref r1), .val (.ref r2), .val (.int (1 : Int32)), .val (.ref b23), .val (.ref b26), .val (.int nm), .val (.int av28), .val (.long ((av28.toInt64) + (p2.toInt64))), .second, .unset, .unset, .unset, .unset, .unset] [(.int (1 : Int32))])) _
              refine XS.istore X35.here hx rfl (hb hby at_162) rfl (l' := #[.val (.int p1), .val (.int p2), .val (.int p3), .val (.int p4), .val (.int p5), .val (.int p6), .val (.ref r1), .val (.ref r2), .val (.int (1 : Int32)), .val (.ref b23), .val (.ref b26), .val (.int nm), .val (.int av28), .val (.long ((av28.toInt64) + (p2.toInt64))), .second, .val (.int (1 : Int32)), .unset, .unset, .unset, .unset]) rfl ?_
              show Steps p.tables e below (T35.setTop (mkF m 164 #[.val (.int p1), .val (.int p2), .val (.int p3), .val (.int p4), .val (.int p5), .val (.int p6), .val (.ref r1), .val (.ref r2), .val (.int (1 : Int32)), .val (.ref b23), .val (.ref b26), .val (.int nm), .val (.int av28), .val (.long ((av28.toInt64) + (p2.toInt64))), .second, .val (.int (1 : Int32)), .unset, .unset, .unset, .unset] [])) _
              exact k
            exact hseg36 T35 _ _ _ (1 : Int32) (X35.more (by decide) (by decide)) Kq35 N hS hk hZ hown (fun qq_ => absurd qq_ gi) (fun _ => rfl)
          · refine own_go (B := T35.setTop (mkF m 164 #[.val (.int p1), .val (.int p2), .val (.int p3), .val (.int p4), .val (.int p5), .val (.int p6), .val (.ref r1), .val (.ref r2), .val (.int (1 : Int32)), .val (.ref b23), .val (.ref b26), .val (.int nm), .val (.int av28), .val (.long ((av28.toInt64) + (p2.toInt64))), .second, .val (.int (1 : Int32)), .unset, .unset, .unset, .unset] [])) (fun t k => ?_) ?_
            · show Steps p.tables e below (T35.setTop (mkF m 145 #[.val (.int p1), .val (.int p2), .val (.int p3), .val (.int p4), .val (.int p5), .val (.int p6), .val (.ref r1), .val (.ref r2), .val (.int (1 : Int32)), .val (.ref b23), .val (.ref b26), .val (.int nm), .val (.int av28), .val (.long ((av28.toInt64) + (p2.toInt64))), .second, .unset, .unset, .unset, .unset, .unset] [(.int (lcmpW ((av28.toInt64) + (p2.toInt64)) (0 : Int64)))])) _
              refine XS.ifNo X35.here hx rfl (hb hby at_145) rfl (XT.ll_lt_f s145) ?_
              show Steps p.tables e below (T35.setTop (mkF m 148 #[.val (.int p1), .val (.int p2), .val (.int p3), .val (.int p4), .val (.int p5), .val (.int p6), .val (.ref r1), .val (.ref r2), .val (.int (1 : Int32)), .val (.ref b23), .val (.ref b26), .val (.int nm), .val (.int av28), .val (.long ((av28.toInt64) + (p2.toInt64))), .second, .unset, .unset, .unset, .unset, .unset] [])) _
              refine XS.lload X35.here hx rfl (hb hby at_148) rfl ?_
              show Steps p.tables e below (T35.setTop (mkF m 150 #[.val (.int p1), .val (.int p2), .val (.int p3), .val (.int p4), .val (.int p5), .val (.int p6), .val (.ref r1), .val (.ref r2), .val (.int (1 : Int32)), .val (.ref b23), .val (.ref b26), .val (.int nm), .val (.int av28), .val (.long ((av28.toInt64) + (p2.toInt64))), .second, .unset, .unset, .unset, .unset, .unset] [(.long ((av28.toInt64) + (p2.toInt64)))])) _
              refine XS.iload X35.here hx rfl (hb hby at_150) rfl ?_
              show Steps p.tables e below (T35.setTop (mkF m 152 #[.val (.int p1), .val (.int p2), .val (.int p3), .val (.int p4), .val (.int p5), .val (.int p6), .val (.ref r1), .val (.ref r2), .val (.int (1 : Int32)), .val (.ref b23), .val (.ref b26), .val (.int nm), .val (.int av28), .val (.long ((av28.toInt64) + (p2.toInt64))), .second, .unset, .unset, .unset, .unset, .unset] [(.int (1 : Int32)), (.long ((av28.toInt64) + (p2.toInt64)))])) _
              refine XS.i2l X35.here hx rfl (hb hby at_152) rfl ?_
              show Steps p.tables e below (T35.setTop (mkF m 153 #[.val (.int p1), .val (.int p2), .val (.int p3), .val (.int p4), .val (.int p5), .val (.int p6), .val (.ref r1), .val (.ref r2), .val (.int (1 : Int32)), .val (.ref b23), .val (.ref b26), .val (.int nm), .val (.int av28), .val (.long ((av28.toInt64) + (p2.toInt64))), .second, .unset, .unset, .unset, .unset, .unset] [(.long ((1 : Int32).toInt64)), (.long ((av28.toInt64) + (p2.toInt64)))])) _
              refine XS.lcmp X35.here hx rfl (hb hby at_153) rfl ?_
              show Steps p.tables e below (T35.setTop (mkF m 154 #[.val (.int p1), .val (.int p2), .val (.int p3), .val (.int p4), .val (.int p5), .val (.int p6), .val (.ref r1), .val (.ref r2), .val (.int (1 : Int32)), .val (.ref b23), .val (.ref b26), .val (.int nm), .val (.int av28), .val (.long ((av28.toInt64) + (p2.toInt64))), .second, .unset, .unset, .unset, .unset, .unset] [(.int (lcmpW ((av28.toInt64) + (p2.toInt64)) ((1 : Int32).toInt64)))])) _
              refine XS.ifNo X35.here hx rfl (hb hby at_154) rfl (XT.ll_lt_f (fun z => gi ((own_idx (A := av28) (k := (1 : Int32)) (p := p2) sc28_1 (by decide)).mpr ⟨s145, z⟩))) ?_
              show Steps p.tables e below (T35.setTop (mkF m 157 #[.val (.int p1), .val (.int p2), .val (.int p3), .val (.int p4), .val (.int p5), .val (.int p6), .val (.ref r1), .val (.ref r2), .val (.int (1 : Int32)), .val (.ref b23), .val (.ref b26), .val (.int nm), .val (.int av28), .val (.long ((av28.toInt64) + (p2.toInt64))), .second, .unset, .unset, .unset, .unset, .unset] [])) _
              refine XS.iconst X35.here hx rfl (hb hby at_157) ?_
              show Steps p.tables e below (T35.setTop (mkF m 158 #[.val (.int p1), .val (.int p2), .val (.int p3), .val (.int p4), .val (.int p5), .val (.int p6), .val (.ref r1), .val (.ref r2), .val (.int (1 : Int32)), .val (.ref b23), .val (.ref b26), .val (.int nm), .val (.int av28), .val (.long ((av28.toInt64) + (p2.toInt64))), .second, .unset, .unset, .unset, .unset, .unset] [(.int (1 : Int32))])) _
              refine XS.goto X35.here hx rfl (pc0 := 158) (pc' := 162) rfl (hb hby at_158) (by decide) (by decide) ?_
              show Steps p.tables e below (T35.setTop (mkF m 162 #[.val (.int p1), .val (.int p2), .val (.int p3), .val (.int p4), .val (.int p5), .val (.int p6), .val (.ref r1), .val (.ref r2), .val (.int (1 : Int32)), .val (.ref b23), .val (.ref b26), .val (.int nm), .val (.int av28), .val (.long ((av28.toInt64) + (p2.toInt64))), .second, .unset, .unset, .unset, .unset, .unset] [(.int (1 : Int32))])) _
              refine XS.istore X35.here hx rfl (hb hby at_162) rfl (l' := #[.val (.int p1), .val (.int p2), .val (.int p3), .val (.int p4), .val (.int p5), .val (.int p6), .val (.ref r1), .val (.ref r2), .val (.int (1 : Int32)), .val (.ref b23), .val (.ref b26), .val (.int nm), .val (.int av28), .val (.long ((av28.toInt64) + (p2.toInt64))), .second, .val (.int (1 : Int32)), .unset, .unset, .unset, .unset]) rfl ?_
              show Steps p.tables e below (T35.setTop (mkF m 164 #[.val (.int p1), .val (.int p2), .val (.int p3), .val (.int p4), .val (.int p5), .val (.int p6), .val (.ref r1), .val (.ref r2), .val (.int (1 : Int32)), .val (.ref b23), .val (.ref b26), .val (.int nm), .val (.int av28), .val (.long ((av28.toInt64) + (p2.toInt64))), .second, .val (.int (1 : Int32)), .unset, .unset, .unset, .unset] [])) _
              exact k
            exact hseg36 T35 _ _ _ (1 : Int32) (X35.more (by decide) (by decide)) Kq35 N hS hk hZ hown (fun qq_ => absurd qq_ gi) (fun _ => rfl)
      intro T36 vm36 kk36 L36 xe36 X36 e36 N hS hk hZ hown sc36_0 sc36_1
      refine own_go (B := T36.setTop (mkF m 167 #[.val (.int p1), .val (.int p2), .val (.int p3), .val (.int p4), .val (.int p5), .val (.int p6), .val (.ref r1), .val (.ref r2), .val (.int (1 : Int32)), .val (.ref b23), .val (.ref b26), .val (.int nm), .val (.int av28), .val (.long ((av28.toInt64) + (p2.toInt64))), .second, .val (.int xe36), .unset, .unset, .unset, .unset] [(.int p2), (.ref b26)])) (fun t k => ?_) ?_
      · show Steps p.tables e below (T36.setTop (mkF m 164 #[.val (.int p1), .val (.int p2), .val (.int p3), .val (.int p4), .val (.int p5), .val (.int p6), .val (.ref r1), .val (.ref r2), .val (.int (1 : Int32)), .val (.ref b23), .val (.ref b26), .val (.int nm), .val (.int av28), .val (.long ((av28.toInt64) + (p2.toInt64))), .second, .val (.int xe36), .unset, .unset, .unset, .unset] [])) _
        refine XS.aload X36.here hx rfl (hb hby at_164) rfl rfl ?_
        show Steps p.tables e below (T36.setTop (mkF m 166 #[.val (.int p1), .val (.int p2), .val (.int p3), .val (.int p4), .val (.int p5), .val (.int p6), .val (.ref r1), .val (.ref r2), .val (.int (1 : Int32)), .val (.ref b23), .val (.ref b26), .val (.int nm), .val (.int av28), .val (.long ((av28.toInt64) + (p2.toInt64))), .second, .val (.int xe36), .unset, .unset, .unset, .unset] [(.ref b26)])) _
        refine XS.iloadN X36.here hx rfl (hb hby at_166) rfl ?_
        show Steps p.tables e below (T36.setTop (mkF m 167 #[.val (.int p1), .val (.int p2), .val (.int p3), .val (.int p4), .val (.int p5), .val (.int p6), .val (.ref r1), .val (.ref r2), .val (.int (1 : Int32)), .val (.ref b23), .val (.ref b26), .val (.int nm), .val (.int av28), .val (.long ((av28.toInt64) + (p2.toInt64))), .second, .val (.int xe36), .unset, .unset, .unset, .unset] [(.int p2), (.ref b26)])) _
        exact k
      -- pc 167: com/example/nasute/nasute/sql/TokenCursor.peek
      obtain ⟨cq37, kq37, q37a, q37b, q37c⟩ := isOf hZ e36 A26
      obtain ⟨_, _, ⟨T37, L37, k37, n37⟩, -, X37, ⟨Lc37, hQ37, l37, y37, z37⟩, st37⟩ := X36.virtualBackUp hx (x := (⟨"com/example/nasute/nasute/sql/TokenCursorIsTextEndPinLaw", "peek", "(I)Lcom/example/nasute/nasute/sql/Token;"⟩ : MethodName)) (y := (⟨"com/example/nasute/nasute/sql/TokenCursor", "peek", "(I)Lcom/example/nasute/nasute/sql/Token;"⟩ : MethodName)) hown (mvT hZ (hw _ (own_g (i := 108) rfl))) (mvT hZ (hw _ (own_g (i := 109) rfl))) (mvT hZ (hw _ (own_g (i := 110) rfl))) (by decide) (mvT hZ (hw _ (own_g (i := 112) rfl))) (mvT hZ (hw _ (own_g (i := 111) rfl))) (backOf (W := 0) (rmPk1 l Z a0 hw [] b26 b23 en27 da25 kda25 r1 av28 p2 h28 n0 O A26 Gq27_1 Gq27_2 Sg28_0 A23 Gq25_2 Gq25_1 Gq25_3 Gq1_0 (Nat.ne_of_lt lt_r1_en27)) hZ (hw _ (own_g (i := 113) rfl)) (hw _ (own_g (i := 90) rfl)) (by decide) (by decide)) q37a q37c (g := (mkF m 167 #[.val (.int p1), .val (.int p2), .val (.int p3), .val (.int p4), .val (.int p5), .val (.int p6), .val (.ref r1), .val (.ref r2), .val (.int (1 : Int32)), .val (.ref b23), .val (.ref b26), .val (.int nm), .val (.int av28), .val (.long ((av28.toInt64) + (p2.toInt64))), .second, .val (.int xe36), .unset, .unset, .unset, .unset] [(.int p2), (.ref b26)])) rfl (by rw [hml]; rfl) (Steps.refl _) (argsL := [(.int p2)]) (rest := []) (lenOf pd_15 rfl) rfl (by show 2 * 0 + _ ≤ _; exact Nat.le_of_eq rfl) (hb hby at_167) (fun _ hWm => ⟨rfl, e36, (by decide : 12 + 0 ≤ _), (by decide : 42 + 0 ≤ _)⟩)
      dsimp only [Pt.U, Pt.locs, Pt.cells, Pt.slots] at X37 l37 y37 z37 st37 hQ37
      subst l37 y37 z37
      obtain ⟨r37, rfl, Nq37, Kq37, cq37_0, cq37_1⟩ := hQ37
      replace N := Fr.app N Nq37
      refine own_go (B := T37.setTop (mkF m 170 #[.val (.int p1), .val (.int p2), .val (.int p3), .val (.int p4), .val (.int p5), .val (.int p6), .val (.ref r1), .val (.ref r2), .val (.int (1 : Int32)), .val (.ref b23), .val (.ref b26), .val (.int nm), .val (.int av28), .val (.long ((av28.toInt64) + (p2.toInt64))), .second, .val (.int xe36), .unset, .unset, .unset, .unset] [(.ref r37)])) (fun t k => st37.trans k) ?_
      refine own_go (B := T37.setTop (mkF m 176 #[.val (.int p1), .val (.int p2), .val (.int p3), .val (.int p4), .val (.int p5), .val (.int p6), .val (.ref r1), .val (.ref r2), .val (.int (1 : Int32)), .val (.ref b23), .val (.ref b26), .val (.int nm), .val (.int av28), .val (.long ((av28.toInt64) + (p2.toInt64))), .second, .val (.int xe36), .val (.ref r37), .unset, .unset, .unset] [(.ref r37), (.ref b26)])) (fun t k => ?_) ?_
      · show Steps p.tables e below (T37.setTop (mkF m 170 #[.val (.int p1), .val (.int p2), .val (.int p3), .val (.int p4), .val (.int p5), .val (.int p6), .val (.ref r1), .val (.ref r2), .val (.int (1 : Int32)), .val (.ref b23), .val (.ref b26), .val (.int nm), .val (.int av28), .val (.long ((av28.toInt64) + (p2.toInt64))), .second, .val (.int xe36), .unset, .unset, .unset, .unset] [(.ref r37)])) _
        refine XS.astore X37.here hx rfl (hb hby at_170) rfl rfl (l' := #[.val (.int p1), .val (.int p2), .val (.int p3), .val (.int p4), .val (.int p5), .val (.int p6), .val (.ref r1), .val (.ref r2), .val (.int (1 : Int32)), .val (.ref b23), .val (.ref b26), .val (.int nm), .val (.int av28), .val (.long ((av28.toInt64) + (p2.toInt64))), .second, .val (.int xe36), .val (.ref r37), .unset, .unset, .unset]) rfl ?_
        show Steps p.tables e below (T37.setTop (mkF m 172 #[.val (.int p1), .val (.int p2), .val (.int p3), .val (.int p4), .val (.int p5), .val (.int p6), .val (.ref r1), .val (.ref r2), .val (.int (1 : Int32)), .val (.ref b23), .val (.ref b26), .val (.int nm), .val (.int av28), .val (.long ((av28.toInt64) + (p2.toInt64))), .second, .val (.int xe36), .val (.ref r37), .unset, .unset, .unset] [])) _
        refine XS.aload X37.here hx rfl (hb hby at_172) rfl rfl ?_
        show Steps p.tables e below (T37.setTop (mkF m 174 #[.val (.int p1), .val (.int p2), .val (.int p3), .val (.int p4), .val (.int p5), .val (.int p6), .val (.ref r1), .val (.ref r2), .val (.int (1 : Int32)), .val (.ref b23), .val (.ref b26), .val (.int nm), .val (.int av28), .val (.long ((av28.toInt64) + (p2.toInt64))), .second, .val (.int xe36), .val (.ref r37), .unset, .unset, .unset] [(.ref b26)])) _
        refine XS.aload X37.here hx rfl (hb hby at_174) rfl rfl ?_
        show Steps p.tables e below (T37.setTop (mkF m 176 #[.val (.int p1), .val (.int p2), .val (.int p3), .val (.int p4), .val (.int p5), .val (.int p6), .val (.ref r1), .val (.ref r2), .val (.int (1 : Int32)), .val (.ref b23), .val (.ref b26), .val (.int nm), .val (.int av28), .val (.long ((av28.toInt64) + (p2.toInt64))), .second, .val (.int xe36), .val (.ref r37), .unset, .unset, .unset] [(.ref r37), (.ref b26)])) _
        exact k
      -- pc 176: com/example/nasute/nasute/sql/TokenCursor.isTextEnd
      obtain ⟨cq38, kq38, q38a, q38b, q38c⟩ := isOf hZ Kq37 A26
      obtain ⟨_, _, ⟨T38, L38, k38, n38⟩, -, X38, ⟨Lc38, hQ38, l38, y38, z38⟩, st38⟩ := X37.virtualBackUp hx (x := (⟨"com/example/nasute/nasute/sql/TokenCursorIsTextEndPinLaw", "isTextEnd", "(Lcom/example/nasute/nasute/sql/Token;)Z"⟩ : MethodName)) (y := (⟨"com/example/nasute/nasute/sql/TokenCursor", "isTextEnd", "(Lcom/example/nasute/nasute/sql/Token;)Z"⟩ : MethodName)) hown (mvT hZ (hw _ (own_g (i := 127) rfl))) (mvT hZ (hw _ (own_g (i := 128) rfl))) (mvT hZ (hw _ (own_g (i := 129) rfl))) (by decide) (mvT hZ (hw _ (own_g (i := 131) rfl))) (mvT hZ (hw _ (own_g (i := 130) rfl))) (backOf (W := 0) (rmTex l Z a0 hw [] b26 r37 en27 h28 n0 O Gq27_2) hZ (hw _ (own_g (i := 132) rfl)) (hw _ (own_g (i := 90) rfl)) (by decide) (by decide)) q38a q38c (g := (mkF m 176 #[.val (.int p1), .val (.int p2), .val (.int p3), .val (.int p4), .val (.int p5), .val (.int p6), .val (.ref r1), .val (.ref r2), .val (.int (1 : Int32)), .val (.ref b23), .val (.ref b26), .val (.int nm), .val (.int av28), .val (.long ((av28.toInt64) + (p2.toInt64))), .second, .val (.int xe36), .val (.ref r37), .unset, .unset, .unset] [(.ref r37), (.ref b26)])) rfl (by rw [hml]; rfl) (Steps.refl _) (argsL := [(.ref r37)]) (rest := []) (lenOf pd_18 rfl) rfl (by show 2 * 0 + _ ≤ _; exact Nat.le_of_eq rfl) (hb hby at_176) (fun _ hWm => ⟨rfl, Kq37, (by decide : 12 + 0 ≤ _), (by decide : 42 + 0 ≤ _)⟩)
      dsimp only [Pt.U, Pt.locs, Pt.cells, Pt.slots] at X38 l38 y38 z38 st38 hQ38
      subst l38 y38 z38
      obtain ⟨vv38, rfl, Nq38, Kq38, cq38_0, cq38_1⟩ := hQ38
      replace N := Fr.app N Nq38
      refine own_go (B := T38.setTop (mkF m 179 #[.val (.int p1), .val (.int p2), .val (.int p3), .val (.int p4), .val (.int p5), .val (.int p6), .val (.ref r1), .val (.ref r2), .val (.int (1 : Int32)), .val (.ref b23), .val (.ref b26), .val (.int nm), .val (.int av28), .val (.long ((av28.toInt64) + (p2.toInt64))), .second, .val (.int xe36), .val (.ref r37), .unset, .unset, .unset] [(.int vv38)])) (fun t k => st38.trans k) ?_
      refine own_go (B := T38.setTop (mkF m 195 #[.val (.int p1), .val (.int p2), .val (.int p3), .val (.int p4), .val (.int p5), .val (.int p6), .val (.ref r1), .val (.ref r2), .val (.int (1 : Int32)), .val (.ref b23), .val (.ref b26), .val (.int nm), .val (.int av28), .val (.long ((av28.toInt64) + (p2.toInt64))), .second, .val (.int xe36), .val (.ref r37), .val (.int (1 : Int32)), .unset, .unset] [(.ref r1), (.ref b26)])) (fun t k => ?_) ?_
      · show Steps p.tables e below (T38.setTop (mkF m 179 #[.val (.int p1), .val (.int p2), .val (.int p3), .val (.int p4), .val (.int p5), .val (.int p6), .val (.ref r1), .val (.ref r2), .val (.int (1 : Int32)), .val (.ref b23), .val (.ref b26), .val (.int nm), .val (.int av28), .val (.long ((av28.toInt64) + (p2.toInt64))), .second, .val (.int xe36), .val (.ref r37), .unset, .unset, .unset] [(.int vv38)])) _
        refine XS.iload X38.here hx rfl (hb hby at_179) rfl ?_
        show Steps p.tables e below (T38.setTop (mkF m 181 #[.val (.int p1), .val (.int p2), .val (.int p3), .val (.int p4), .val (.int p5), .val (.int p6), .val (.ref r1), .val (.ref r2), .val (.int (1 : Int32)), .val (.ref b23), .val (.ref b26), .val (.int nm), .val (.int av28), .val (.long ((av28.toInt64) + (p2.toInt64))), .second, .val (.int xe36), .val (.ref r37), .unset, .unset, .unset] [(.int xe36), (.int vv38)])) _
        refine XS.icmpNo X38.here hx rfl (hb hby at_181) rfl (teq (own_eq3 cq37_0 cq37_1 cq38_0 cq38_1 sc36_0 sc36_1)).2 ?_
        show Steps p.tables e below (T38.setTop (mkF m 184 #[.val (.int p1), .val (.int p2), .val (.int p3), .val (.int p4), .val (.int p5), .val (.int p6), .val (.ref r1), .val (.ref r2), .val (.int (1 : Int32)), .val (.ref b23), .val (.ref b26), .val (.int nm), .val (.int av28), .val (.long ((av28.toInt64) + (p2.toInt64))), .second, .val (.int xe36), .val (.ref r37), .unset, .unset, .unset] [])) _
        refine XS.iconst X38.here hx rfl (hb hby at_184) ?_
        show Steps p.tables e below (T38.setTop (mkF m 185 #[.val (.int p1), .val (.int p2), .val (.int p3), .val (.int p4), .val (.int p5), .val (.int p6), .val (.ref r1), .val (.ref r2), .val (.int (1 : Int32)), .val (.ref b23), .val (.ref b26), .val (.int nm), .val (.int av28), .val (.long ((av28.toInt64) + (p2.toInt64))), .second, .val (.int xe36), .val (.ref r37), .unset, .unset, .unset] [(.int (1 : Int32))])) _
        refine XS.goto X38.here hx rfl (pc0 := 185) (pc' := 189) rfl (hb hby at_185) (by decide) (by decide) ?_
        show Steps p.tables e below (T38.setTop (mkF m 189 #[.val (.int p1), .val (.int p2), .val (.int p3), .val (.int p4), .val (.int p5), .val (.int p6), .val (.ref r1), .val (.ref r2), .val (.int (1 : Int32)), .val (.ref b23), .val (.ref b26), .val (.int nm), .val (.int av28), .val (.long ((av28.toInt64) + (p2.toInt64))), .second, .val (.int xe36), .val (.ref r37), .unset, .unset, .unset] [(.int (1 : Int32))])) _
        refine XS.istore X38.here hx rfl (hb hby at_189) rfl (l' := #[.val (.int p1), .val (.int p2), .val (.int p3), .val (.int p4), .val (.int p5), .val (.int p6), .val (.ref r1), .val (.ref r2), .val (.int (1 : Int32)), .val (.ref b23), .val (.ref b26), .val (.int nm), .val (.int av28), .val (.long ((av28.toInt64) + (p2.toInt64))), .second, .val (.int xe36), .val (.ref r37), .val (.int (1 : Int32)), .unset, .unset]) rfl ?_
        show Steps p.tables e below (T38.setTop (mkF m 191 #[.val (.int p1), .val (.int p2), .val (.int p3), .val (.int p4), .val (.int p5), .val (.int p6), .val (.ref r1), .val (.ref r2), .val (.int (1 : Int32)), .val (.ref b23), .val (.ref b26), .val (.int nm), .val (.int av28), .val (.long ((av28.toInt64) + (p2.toInt64))), .second, .val (.int xe36), .val (.ref r37), .val (.int (1 : Int32)), .unset, .unset] [])) _
        refine XS.aload X38.here hx rfl (hb hby at_191) rfl rfl ?_
        show Steps p.tables e below (T38.setTop (mkF m 193 #[.val (.int p1), .val (.int p2), .val (.int p3), .val (.int p4), .val (.int p5), .val (.int p6), .val (.ref r1), .val (.ref r2), .val (.int (1 : Int32)), .val (.ref b23), .val (.ref b26), .val (.int nm), .val (.int av28), .val (.long ((av28.toInt64) + (p2.toInt64))), .second, .val (.int xe36), .val (.ref r37), .val (.int (1 : Int32)), .unset, .unset] [(.ref b26)])) _
        refine XS.aload X38.here hx rfl (hb hby at_193) rfl rfl ?_
        show Steps p.tables e below (T38.setTop (mkF m 195 #[.val (.int p1), .val (.int p2), .val (.int p3), .val (.int p4), .val (.int p5), .val (.int p6), .val (.ref r1), .val (.ref r2), .val (.int (1 : Int32)), .val (.ref b23), .val (.ref b26), .val (.int nm), .val (.int av28), .val (.long ((av28.toInt64) + (p2.toInt64))), .second, .val (.int xe36), .val (.ref r37), .val (.int (1 : Int32)), .unset, .unset] [(.ref r1), (.ref b26)])) _
        exact k
      -- pc 195: com/example/nasute/nasute/sql/TokenCursor.isTextEnd
      obtain ⟨cq39, kq39, q39a, q39b, q39c⟩ := isOf hZ Kq38 A26
      obtain ⟨_, _, ⟨T39, L39, k39, n39⟩, -, X39, ⟨Lc39, hQ39, l39, y39, z39⟩, st39⟩ := X38.virtualBackUp hx (x := (⟨"com/example/nasute/nasute/sql/TokenCursorIsTextEndPinLaw", "isTextEnd", "(Lcom/example/nasute/nasute/sql/Token;)Z"⟩ : MethodName)) (y := (⟨"com/example/nasute/nasute/sql/TokenCursor", "isTextEnd", "(Lcom/example/nasute/nasute/sql/Token;)Z"⟩ : MethodName)) hown (mvT hZ (hw _ (own_g (i := 127) rfl))) (mvT hZ (hw _ (own_g (i := 128) rfl))) (mvT hZ (hw _ (own_g (i := 129) rfl))) (by decide) (mvT hZ (hw _ (own_g (i := 131) rfl))) (mvT hZ (hw _ (own_g (i := 130) rfl))) (backOf (W := 0) (rmTex l Z a0 hw [] b26 r1 en27 h28 n0 O Gq27_2) hZ (hw _ (own_g (i := 132) rfl)) (hw _ (own_g (i := 90) rfl)) (by decide) (by decide)) q39a q39c (g := (mkF m 195 #[.val (.int p1), .val (.int p2), .val (.int p3), .val (.int p4), .val (.int p5), .val (.int p6), .val (.ref r1), .val (.ref r2), .val (.int (1 : Int32)), .val (.ref b23), .val (.ref b26), .val (.int nm), .val (.int av28), .val (.long ((av28.toInt64) + (p2.toInt64))), .second, .val (.int xe36), .val (.ref r37), .val (.int (1 : Int32)), .unset, .unset] [(.ref r1), (.ref b26)])) rfl (by rw [hml]; rfl) (Steps.refl _) (argsL := [(.ref r1)]) (rest := []) (lenOf pd_18 rfl) rfl (by show 2 * 0 + _ ≤ _; exact Nat.le_of_eq rfl) (hb hby at_195) (fun _ hWm => ⟨rfl, Kq38, (by decide : 12 + 0 ≤ _), (by decide : 42 + 0 ≤ _)⟩)
      dsimp only [Pt.U, Pt.locs, Pt.cells, Pt.slots] at X39 l39 y39 z39 st39 hQ39
      subst l39 y39 z39
      obtain ⟨vv39, rfl, Nq39, Kq39, cq39_0, cq39_1⟩ := hQ39
      replace N := Fr.app N Nq39
      refine own_go (B := T39.setTop (mkF m 198 #[.val (.int p1), .val (.int p2), .val (.int p3), .val (.int p4), .val (.int p5), .val (.int p6), .val (.ref r1), .val (.ref r2), .val (.int (1 : Int32)), .val (.ref b23), .val (.ref b26), .val (.int nm), .val (.int av28), .val (.long ((av28.toInt64) + (p2.toInt64))), .second, .val (.int xe36), .val (.ref r37), .val (.int (1 : Int32)), .unset, .unset] [(.int vv39)])) (fun t k => st39.trans k) ?_
      refine own_go (B := T39.setTop (mkF m 205 #[.val (.int p1), .val (.int p2), .val (.int p3), .val (.int p4), .val (.int p5), .val (.int p6), .val (.ref r1), .val (.ref r2), .val (.int (1 : Int32)), .val (.ref b23), .val (.ref b26), .val (.int nm), .val (.int av28), .val (.long ((av28.toInt64) + (p2.toInt64))), .second, .val (.int xe36), .val (.ref r37), .val (.int (1 : Int32)), .unset, .unset] [(.ref r2), (.ref b26)])) (fun t k => ?_) ?_
      · show Steps p.tables e below (T39.setTop (mkF m 198 #[.val (.int p1), .val (.int p2), .val (.int p3), .val (.int p4), .val (.int p5), .val (.int p6), .val (.ref r1), .val (.ref r2), .val (.int (1 : Int32)), .val (.ref b23), .val (.ref b26), .val (.int nm), .val (.int av28), .val (.long ((av28.toInt64) + (p2.toInt64))), .second, .val (.int xe36), .val (.ref r37), .val (.int (1 : Int32)), .unset, .unset] [(.int vv39)])) _
        refine XS.ifNo X39.here hx rfl (hb hby at_198) rfl ((if0 _ _).trans (teq (cq39_1 (Nat.ne_of_lt lt_r1_en27))).2) ?_
        show Steps p.tables e below (T39.setTop (mkF m 201 #[.val (.int p1), .val (.int p2), .val (.int p3), .val (.int p4), .val (.int p5), .val (.int p6), .val (.ref r1), .val (.ref r2), .val (.int (1 : Int32)), .val (.ref b23), .val (.ref b26), .val (.int nm), .val (.int av28), .val (.long ((av28.toInt64) + (p2.toInt64))), .second, .val (.int xe36), .val (.ref r37), .val (.int (1 : Int32)), .unset, .unset] [])) _
        refine XS.aload X39.here hx rfl (hb hby at_201) rfl rfl ?_
        show Steps p.tables e below (T39.setTop (mkF m 203 #[.val (.int p1), .val (.int p2), .val (.int p3), .val (.int p4), .val (.int p5), .val (.int p6), .val (.ref r1), .val (.ref r2), .val (.int (1 : Int32)), .val (.ref b23), .val (.ref b26), .val (.int nm), .val (.int av28), .val (.long ((av28.toInt64) + (p2.toInt64))), .second, .val (.int xe36), .val (.ref r37), .val (.int (1 : Int32)), .unset, .unset] [(.ref b26)])) _
        refine XS.aload X39.here hx rfl (hb hby at_203) rfl rfl ?_
        show Steps p.tables e below (T39.setTop (mkF m 205 #[.val (.int p1), .val (.int p2), .val (.int p3), .val (.int p4), .val (.int p5), .val (.int p6), .val (.ref r1), .val (.ref r2), .val (.int (1 : Int32)), .val (.ref b23), .val (.ref b26), .val (.int nm), .val (.int av28), .val (.long ((av28.toInt64) + (p2.toInt64))), .second, .val (.int xe36), .val (.ref r37), .val (.int (1 : Int32)), .unset, .unset] [(.ref r2), (.ref b26)])) _
        exact k
      -- pc 205: com/example/nasute/nasute/sql/TokenCursor.isTextEnd
      obtain ⟨cq40, kq40, q40a, q40b, q40c⟩ := isOf hZ Kq39 A26
      obtain ⟨_, _, ⟨T40, L40, k40, n40⟩, -, X40, ⟨Lc40, hQ40, l40, y40, z40⟩, st40⟩ := X39.virtualBackUp hx (x := (⟨"com/example/nasute/nasute/sql/TokenCursorIsTextEndPinLaw", "isTextEnd", "(Lcom/example/nasute/nasute/sql/Token;)Z"⟩ : MethodName)) (y := (⟨"com/example/nasute/nasute/sql/TokenCursor", "isTextEnd", "(Lcom/example/nasute/nasute/sql/Token;)Z"⟩ : MethodName)) hown (mvT hZ (hw _ (own_g (i := 127) rfl))) (mvT hZ (hw _ (own_g (i := 128) rfl))) (mvT hZ (hw _ (own_g (i := 129) rfl))) (by decide) (mvT hZ (hw _ (own_g (i := 131) rfl))) (mvT hZ (hw _ (own_g (i := 130) rfl))) (backOf (W := 0) (rmTex l Z a0 hw [] b26 r2 en27 h28 n0 O Gq27_2) hZ (hw _ (own_g (i := 132) rfl)) (hw _ (own_g (i := 90) rfl)) (by decide) (by decide)) q40a q40c (g := (mkF m 205 #[.val (.int p1), .val (.int p2), .val (.int p3), .val (.int p4), .val (.int p5), .val (.int p6), .val (.ref r1), .val (.ref r2), .val (.int (1 : Int32)), .val (.ref b23), .val (.ref b26), .val (.int nm), .val (.int av28), .val (.long ((av28.toInt64) + (p2.toInt64))), .second, .val (.int xe36), .val (.ref r37), .val (.int (1 : Int32)), .unset, .unset] [(.ref r2), (.ref b26)])) rfl (by rw [hml]; rfl) (Steps.refl _) (argsL := [(.ref r2)]) (rest := []) (lenOf pd_18 rfl) rfl (by show 2 * 0 + _ ≤ _; exact Nat.le_of_eq rfl) (hb hby at_205) (fun _ hWm => ⟨rfl, Kq39, (by decide : 12 + 0 ≤ _), (by decide : 42 + 0 ≤ _)⟩)
      dsimp only [Pt.U, Pt.locs, Pt.cells, Pt.slots] at X40 l40 y40 z40 st40 hQ40
      subst l40 y40 z40
      obtain ⟨vv40, rfl, Nq40, Kq40, cq40_0, cq40_1⟩ := hQ40
      replace N := Fr.app N Nq40
      refine own_go (B := T40.setTop (mkF m 208 #[.val (.int p1), .val (.int p2), .val (.int p3), .val (.int p4), .val (.int p5), .val (.int p6), .val (.ref r1), .val (.ref r2), .val (.int (1 : Int32)), .val (.ref b23), .val (.ref b26), .val (.int nm), .val (.int av28), .val (.long ((av28.toInt64) + (p2.toInt64))), .second, .val (.int xe36), .val (.ref r37), .val (.int (1 : Int32)), .unset, .unset] [(.int vv40)])) (fun t k => st40.trans k) ?_
      refine own_go (B := T40.setTop (mkF m 227 #[.val (.int p1), .val (.int p2), .val (.int p3), .val (.int p4), .val (.int p5), .val (.int p6), .val (.ref r1), .val (.ref r2), .val (.int (1 : Int32)), .val (.ref b23), .val (.ref b26), .val (.int nm), .val (.int av28), .val (.long ((av28.toInt64) + (p2.toInt64))), .second, .val (.int xe36), .val (.ref r37), .val (.int (1 : Int32)), .val (.int (1 : Int32)), .unset] [(.int ((1 : Int32) - av28)), (.ref b26), (.ref b26)])) (fun t k => ?_) ?_
      · show Steps p.tables e below (T40.setTop (mkF m 208 #[.val (.int p1), .val (.int p2), .val (.int p3), .val (.int p4), .val (.int p5), .val (.int p6), .val (.ref r1), .val (.ref r2), .val (.int (1 : Int32)), .val (.ref b23), .val (.ref b26), .val (.int nm), .val (.int av28), .val (.long ((av28.toInt64) + (p2.toInt64))), .second, .val (.int xe36), .val (.ref r37), .val (.int (1 : Int32)), .unset, .unset] [(.int vv40)])) _
        refine XS.ifNo X40.here hx rfl (hb hby at_208) rfl ((if0 _ _).trans (teq (cq40_1 (Nat.ne_of_lt lt_r2_en27))).2) ?_
        show Steps p.tables e below (T40.setTop (mkF m 211 #[.val (.int p1), .val (.int p2), .val (.int p3), .val (.int p4), .val (.int p5), .val (.int p6), .val (.ref r1), .val (.ref r2), .val (.int (1 : Int32)), .val (.ref b23), .val (.ref b26), .val (.int nm), .val (.int av28), .val (.long ((av28.toInt64) + (p2.toInt64))), .second, .val (.int xe36), .val (.ref r37), .val (.int (1 : Int32)), .unset, .unset] [])) _
        refine XS.iconst X40.here hx rfl (hb hby at_211) ?_
        show Steps p.tables e below (T40.setTop (mkF m 212 #[.val (.int p1), .val (.int p2), .val (.int p3), .val (.int p4), .val (.int p5), .val (.int p6), .val (.ref r1), .val (.ref r2), .val (.int (1 : Int32)), .val (.ref b23), .val (.ref b26), .val (.int nm), .val (.int av28), .val (.long ((av28.toInt64) + (p2.toInt64))), .second, .val (.int xe36), .val (.ref r37), .val (.int (1 : Int32)), .unset, .unset] [(.int (1 : Int32))])) _
        refine XS.goto X40.here hx rfl (pc0 := 212) (pc' := 216) rfl (hb hby at_212) (by decide) (by decide) ?_
        show Steps p.tables e below (T40.setTop (mkF m 216 #[.val (.int p1), .val (.int p2), .val (.int p3), .val (.int p4), .val (.int p5), .val (.int p6), .val (.ref r1), .val (.ref r2), .val (.int (1 : Int32)), .val (.ref b23), .val (.ref b26), .val (.int nm), .val (.int av28), .val (.long ((av28.toInt64) + (p2.toInt64))), .second, .val (.int xe36), .val (.ref r37), .val (.int (1 : Int32)), .unset, .unset] [(.int (1 : Int32))])) _
        refine XS.istore X40.here hx rfl (hb hby at_216) rfl (l' := #[.val (.int p1), .val (.int p2), .val (.int p3), .val (.int p4), .val (.int p5), .val (.int p6), .val (.ref r1), .val (.ref r2), .val (.int (1 : Int32)), .val (.ref b23), .val (.ref b26), .val (.int nm), .val (.int av28), .val (.long ((av28.toInt64) + (p2.toInt64))), .second, .val (.int xe36), .val (.ref r37), .val (.int (1 : Int32)), .val (.int (1 : Int32)), .unset]) rfl ?_
        show Steps p.tables e below (T40.setTop (mkF m 218 #[.val (.int p1), .val (.int p2), .val (.int p3), .val (.int p4), .val (.int p5), .val (.int p6), .val (.ref r1), .val (.ref r2), .val (.int (1 : Int32)), .val (.ref b23), .val (.ref b26), .val (.int nm), .val (.int av28), .val (.long ((av28.toInt64) + (p2.toInt64))), .second, .val (.int xe36), .val (.ref r37), .val (.int (1 : Int32)), .val (.int (1 : Int32)), .unset] [])) _
        refine XS.aload X40.here hx rfl (hb hby at_218) rfl rfl ?_
        show Steps p.tables e below (T40.setTop (mkF m 220 #[.val (.int p1), .val (.int p2), .val (.int p3), .val (.int p4), .val (.int p5), .val (.int p6), .val (.ref r1), .val (.ref r2), .val (.int (1 : Int32)), .val (.ref b23), .val (.ref b26), .val (.int nm), .val (.int av28), .val (.long ((av28.toInt64) + (p2.toInt64))), .second, .val (.int xe36), .val (.ref r37), .val (.int (1 : Int32)), .val (.int (1 : Int32)), .unset] [(.ref b26)])) _
        refine XS.aload X40.here hx rfl (hb hby at_220) rfl rfl ?_
        show Steps p.tables e below (T40.setTop (mkF m 222 #[.val (.int p1), .val (.int p2), .val (.int p3), .val (.int p4), .val (.int p5), .val (.int p6), .val (.ref r1), .val (.ref r2), .val (.int (1 : Int32)), .val (.ref b23), .val (.ref b26), .val (.int nm), .val (.int av28), .val (.long ((av28.toInt64) + (p2.toInt64))), .second, .val (.int xe36), .val (.ref r37), .val (.int (1 : Int32)), .val (.int (1 : Int32)), .unset] [(.ref b26), (.ref b26)])) _
        refine XS.iload X40.here hx rfl (hb hby at_222) rfl ?_
        show Steps p.tables e below (T40.setTop (mkF m 224 #[.val (.int p1), .val (.int p2), .val (.int p3), .val (.int p4), .val (.int p5), .val (.int p6), .val (.ref r1), .val (.ref r2), .val (.int (1 : Int32)), .val (.ref b23), .val (.ref b26), .val (.int nm), .val (.int av28), .val (.long ((av28.toInt64) + (p2.toInt64))), .second, .val (.int xe36), .val (.ref r37), .val (.int (1 : Int32)), .val (.int (1 : Int32)), .unset] [(.int (1 : Int32)), (.ref b26), (.ref b26)])) _
        refine XS.iload X40.here hx rfl (hb hby at_224) rfl ?_
        show Steps p.tables e below (T40.setTop (mkF m 226 #[.val (.int p1), .val (.int p2), .val (.int p3), .val (.int p4), .val (.int p5), .val (.int p6), .val (.ref r1), .val (.ref r2), .val (.int (1 : Int32)), .val (.ref b23), .val (.ref b26), .val (.int nm), .val (.int av28), .val (.long ((av28.toInt64) + (p2.toInt64))), .second, .val (.int xe36), .val (.ref r37), .val (.int (1 : Int32)), .val (.int (1 : Int32)), .unset] [(.int av28), (.int (1 : Int32)), (.ref b26), (.ref b26)])) _
        refine XS.isub X40.here hx rfl (hb hby at_226) rfl ?_
        show Steps p.tables e below (T40.setTop (mkF m 227 #[.val (.int p1), .val (.int p2), .val (.int p3), .val (.int p4), .val (.int p5), .val (.int p6), .val (.ref r1), .val (.ref r2), .val (.int (1 : Int32)), .val (.ref b23), .val (.ref b26), .val (.int nm), .val (.int av28), .val (.long ((av28.toInt64) + (p2.toInt64))), .second, .val (.int xe36), .val (.ref r37), .val (.int (1 : Int32)), .val (.int (1 : Int32)), .unset] [(.int ((1 : Int32) - av28)), (.ref b26), (.ref b26)])) _
        exact k
      -- pc 227: com/example/nasute/nasute/sql/TokenCursor.peek
      obtain ⟨cq41, kq41, q41a, q41b, q41c⟩ := isOf hZ Kq40 A26
      obtain ⟨_, _, ⟨T41, L41, k41, n41⟩, -, X41, ⟨Lc41, hQ41, l41, y41, z41⟩, st41⟩ := X40.virtualBackUp hx (x := (⟨"com/example/nasute/nasute/sql/TokenCursorIsTextEndPinLaw", "peek", "(I)Lcom/example/nasute/nasute/sql/Token;"⟩ : MethodName)) (y := (⟨"com/example/nasute/nasute/sql/TokenCursor", "peek", "(I)Lcom/example/nasute/nasute/sql/Token;"⟩ : MethodName)) hown (mvT hZ (hw _ (own_g (i := 108) rfl))) (mvT hZ (hw _ (own_g (i := 109) rfl))) (mvT hZ (hw _ (own_g (i := 110) rfl))) (by decide) (mvT hZ (hw _ (own_g (i := 112) rfl))) (mvT hZ (hw _ (own_g (i := 111) rfl))) (backOf (W := 1) (rmPk1 l Z a0 hw [] b26 b23 en27 da25 kda25 r1 av28 ((1 : Int32) - av28) h28 n0 O A26 Gq27_1 Gq27_2 Sg28_0 A23 Gq25_2 Gq25_1 Gq25_3 Gq1_0 (Nat.ne_of_lt lt_r1_en27)) hZ (hw _ (own_g (i := 113) rfl)) (hw _ (own_g (i := 90) rfl)) (by decide) (by decide)) q41a q41c (g := (mkF m 227 #[.val (.int p1), .val (.int p2), .val (.int p3), .val (.int p4), .val (.int p5), .val (.int p6), .val (.ref r1), .val (.ref r2), .val (.int (1 : Int32)), .val (.ref b23), .val (.ref b26), .val (.int nm), .val (.int av28), .val (.long ((av28.toInt64) + (p2.toInt64))), .second, .val (.int xe36), .val (.ref r37), .val (.int (1 : Int32)), .val (.int (1 : Int32)), .unset] [(.int ((1 : Int32) - av28)), (.ref b26), (.ref b26)])) rfl (by rw [hml]; rfl) (Steps.refl _) (argsL := [(.int ((1 : Int32) - av28))]) (rest := [(.ref b26)]) (lenOf pd_15 rfl) rfl (by show 2 * 0 + _ ≤ _; exact Nat.le_of_eq rfl) (hb hby at_227) (fun _ hWm => ⟨rfl, Kq40, (by decide : 12 + 0 ≤ _), (by decide : 42 + 0 ≤ _)⟩)
      dsimp only [Pt.U, Pt.locs, Pt.cells, Pt.slots] at X41 l41 y41 z41 st41 hQ41
      subst l41 y41 z41
      obtain ⟨r41, rfl, Nq41, Kq41, cq41_0, cq41_1⟩ := hQ41
      replace N := Fr.app N Nq41
      refine own_go (B := T41.setTop (mkF m 230 #[.val (.int p1), .val (.int p2), .val (.int p3), .val (.int p4), .val (.int p5), .val (.int p6), .val (.ref r1), .val (.ref r2), .val (.int (1 : Int32)), .val (.ref b23), .val (.ref b26), .val (.int nm), .val (.int av28), .val (.long ((av28.toInt64) + (p2.toInt64))), .second, .val (.int xe36), .val (.ref r37), .val (.int (1 : Int32)), .val (.int (1 : Int32)), .unset] [(.ref r41), (.ref b26)])) (fun t k => st41.trans k) ?_
      -- pc 230: com/example/nasute/nasute/sql/TokenCursor.isTextEnd
      obtain ⟨cq42, kq42, q42a, q42b, q42c⟩ := isOf hZ Kq41 A26
      obtain ⟨_, _, ⟨T42, L42, k42, n42⟩, -, X42, ⟨Lc42, hQ42, l42, y42, z42⟩, st42⟩ := X41.virtualBackUp hx (x := (⟨"com/example/nasute/nasute/sql/TokenCursorIsTextEndPinLaw", "isTextEnd", "(Lcom/example/nasute/nasute/sql/Token;)Z"⟩ : MethodName)) (y := (⟨"com/example/nasute/nasute/sql/TokenCursor", "isTextEnd", "(Lcom/example/nasute/nasute/sql/Token;)Z"⟩ : MethodName)) hown (mvT hZ (hw _ (own_g (i := 127) rfl))) (mvT hZ (hw _ (own_g (i := 128) rfl))) (mvT hZ (hw _ (own_g (i := 129) rfl))) (by decide) (mvT hZ (hw _ (own_g (i := 131) rfl))) (mvT hZ (hw _ (own_g (i := 130) rfl))) (backOf (W := 0) (rmTex l Z a0 hw [] b26 r41 en27 h28 n0 O Gq27_2) hZ (hw _ (own_g (i := 132) rfl)) (hw _ (own_g (i := 90) rfl)) (by decide) (by decide)) q42a q42c (g := (mkF m 230 #[.val (.int p1), .val (.int p2), .val (.int p3), .val (.int p4), .val (.int p5), .val (.int p6), .val (.ref r1), .val (.ref r2), .val (.int (1 : Int32)), .val (.ref b23), .val (.ref b26), .val (.int nm), .val (.int av28), .val (.long ((av28.toInt64) + (p2.toInt64))), .second, .val (.int xe36), .val (.ref r37), .val (.int (1 : Int32)), .val (.int (1 : Int32)), .unset] [(.ref r41), (.ref b26)])) rfl (by rw [hml]; rfl) (Steps.refl _) (argsL := [(.ref r41)]) (rest := []) (lenOf pd_18 rfl) rfl (by show 2 * 0 + _ ≤ _; exact Nat.le_of_eq rfl) (hb hby at_230) (fun _ hWm => ⟨rfl, Kq41, (by decide : 12 + 0 ≤ _), (by decide : 42 + 0 ≤ _)⟩)
      dsimp only [Pt.U, Pt.locs, Pt.cells, Pt.slots] at X42 l42 y42 z42 st42 hQ42
      subst l42 y42 z42
      obtain ⟨vv42, rfl, Nq42, Kq42, cq42_0, cq42_1⟩ := hQ42
      replace N := Fr.app N Nq42
      refine own_go (B := T42.setTop (mkF m 233 #[.val (.int p1), .val (.int p2), .val (.int p3), .val (.int p4), .val (.int p5), .val (.int p6), .val (.ref r1), .val (.ref r2), .val (.int (1 : Int32)), .val (.ref b23), .val (.ref b26), .val (.int nm), .val (.int av28), .val (.long ((av28.toInt64) + (p2.toInt64))), .second, .val (.int xe36), .val (.ref r37), .val (.int (1 : Int32)), .val (.int (1 : Int32)), .unset] [(.int vv42)])) (fun t k => st42.trans k) ?_
      refine own_go (B := T42.setTop (mkF m 255 #[.val (.int p1), .val (.int p2), .val (.int p3), .val (.int p4), .val (.int p5), .val (.int p6), .val (.ref r1), .val (.ref r2), .val (.int (1 : Int32)), .val (.ref b23), .val (.ref b26), .val (.int nm), .val (.int av28), .val (.long ((av28.toInt64) + (p2.toInt64))), .second, .val (.int xe36), .val (.ref r37), .val (.int (1 : Int32)), .val (.int (1 : Int32)), .val (.int vv42)] [(.int (1 : Int32))])) (fun t k => ?_) ?_
      · show Steps p.tables e below (T42.setTop (mkF m 233 #[.val (.int p1), .val (.int p2), .val (.int p3), .val (.int p4), .val (.int p5), .val (.int p6), .val (.ref r1), .val (.ref r2), .val (.int (1 : Int32)), .val (.ref b23), .val (.ref b26), .val (.int nm), .val (.int av28), .val (.long ((av28.toInt64) + (p2.toInt64))), .second, .val (.int xe36), .val (.ref r37), .val (.int (1 : Int32)), .val (.int (1 : Int32)), .unset] [(.int vv42)])) _
        refine XS.istore X42.here hx rfl (hb hby at_233) rfl (l' := #[.val (.int p1), .val (.int p2), .val (.int p3), .val (.int p4), .val (.int p5), .val (.int p6), .val (.ref r1), .val (.ref r2), .val (.int (1 : Int32)), .val (.ref b23), .val (.ref b26), .val (.int nm), .val (.int av28), .val (.long ((av28.toInt64) + (p2.toInt64))), .second, .val (.int xe36), .val (.ref r37), .val (.int (1 : Int32)), .val (.int (1 : Int32)), .val (.int vv42)]) rfl ?_
        show Steps p.tables e below (T42.setTop (mkF m 235 #[.val (.int p1), .val (.int p2), .val (.int p3), .val (.int p4), .val (.int p5), .val (.int p6), .val (.ref r1), .val (.ref r2), .val (.int (1 : Int32)), .val (.ref b23), .val (.ref b26), .val (.int nm), .val (.int av28), .val (.long ((av28.toInt64) + (p2.toInt64))), .second, .val (.int xe36), .val (.ref r37), .val (.int (1 : Int32)), .val (.int (1 : Int32)), .val (.int vv42)] [])) _
        refine XS.iload X42.here hx rfl (hb hby at_235) rfl ?_
        show Steps p.tables e below (T42.setTop (mkF m 237 #[.val (.int p1), .val (.int p2), .val (.int p3), .val (.int p4), .val (.int p5), .val (.int p6), .val (.ref r1), .val (.ref r2), .val (.int (1 : Int32)), .val (.ref b23), .val (.ref b26), .val (.int nm), .val (.int av28), .val (.long ((av28.toInt64) + (p2.toInt64))), .second, .val (.int xe36), .val (.ref r37), .val (.int (1 : Int32)), .val (.int (1 : Int32)), .val (.int vv42)] [(.int (1 : Int32))])) _
        refine XS.ifNo X42.here hx rfl (hb hby at_237) rfl ((if0 _ _).trans (feq (by decide)).1) ?_
        show Steps p.tables e below (T42.setTop (mkF m 240 #[.val (.int p1), .val (.int p2), .val (.int p3), .val (.int p4), .val (.int p5), .val (.int p6), .val (.ref r1), .val (.ref r2), .val (.int (1 : Int32)), .val (.ref b23), .val (.ref b26), .val (.int nm), .val (.int av28), .val (.long ((av28.toInt64) + (p2.toInt64))), .second, .val (.int xe36), .val (.ref r37), .val (.int (1 : Int32)), .val (.int (1 : Int32)), .val (.int vv42)] [])) _
        refine XS.iload X42.here hx rfl (hb hby at_240) rfl ?_
        show Steps p.tables e below (T42.setTop (mkF m 242 #[.val (.int p1), .val (.int p2), .val (.int p3), .val (.int p4), .val (.int p5), .val (.int p6), .val (.ref r1), .val (.ref r2), .val (.int (1 : Int32)), .val (.ref b23), .val (.ref b26), .val (.int nm), .val (.int av28), .val (.long ((av28.toInt64) + (p2.toInt64))), .second, .val (.int xe36), .val (.ref r37), .val (.int (1 : Int32)), .val (.int (1 : Int32)), .val (.int vv42)] [(.int (1 : Int32))])) _
        refine XS.ifNo X42.here hx rfl (hb hby at_242) rfl ((if0 _ _).trans (feq (by decide)).1) ?_
        show Steps p.tables e below (T42.setTop (mkF m 245 #[.val (.int p1), .val (.int p2), .val (.int p3), .val (.int p4), .val (.int p5), .val (.int p6), .val (.ref r1), .val (.ref r2), .val (.int (1 : Int32)), .val (.ref b23), .val (.ref b26), .val (.int nm), .val (.int av28), .val (.long ((av28.toInt64) + (p2.toInt64))), .second, .val (.int xe36), .val (.ref r37), .val (.int (1 : Int32)), .val (.int (1 : Int32)), .val (.int vv42)] [])) _
        refine XS.iload X42.here hx rfl (hb hby at_245) rfl ?_
        show Steps p.tables e below (T42.setTop (mkF m 247 #[.val (.int p1), .val (.int p2), .val (.int p3), .val (.int p4), .val (.int p5), .val (.int p6), .val (.ref r1), .val (.ref r2), .val (.int (1 : Int32)), .val (.ref b23), .val (.ref b26), .val (.int nm), .val (.int av28), .val (.long ((av28.toInt64) + (p2.toInt64))), .second, .val (.int xe36), .val (.ref r37), .val (.int (1 : Int32)), .val (.int (1 : Int32)), .val (.int vv42)] [(.int vv42)])) _
        refine XS.ifNo X42.here hx rfl (hb hby at_247) rfl ((if0 _ _).trans (feq (fun z => absurd ((cq42_0 (cq41_1 own_out)).symm.trans z) (by decide))).1) ?_
        show Steps p.tables e below (T42.setTop (mkF m 250 #[.val (.int p1), .val (.int p2), .val (.int p3), .val (.int p4), .val (.int p5), .val (.int p6), .val (.ref r1), .val (.ref r2), .val (.int (1 : Int32)), .val (.ref b23), .val (.ref b26), .val (.int nm), .val (.int av28), .val (.long ((av28.toInt64) + (p2.toInt64))), .second, .val (.int xe36), .val (.ref r37), .val (.int (1 : Int32)), .val (.int (1 : Int32)), .val (.int vv42)] [])) _
        refine XS.iconst X42.here hx rfl (hb hby at_250) ?_
        show Steps p.tables e below (T42.setTop (mkF m 251 #[.val (.int p1), .val (.int p2), .val (.int p3), .val (.int p4), .val (.int p5), .val (.int p6), .val (.ref r1), .val (.ref r2), .val (.int (1 : Int32)), .val (.ref b23), .val (.ref b26), .val (.int nm), .val (.int av28), .val (.long ((av28.toInt64) + (p2.toInt64))), .second, .val (.int xe36), .val (.ref r37), .val (.int (1 : Int32)), .val (.int (1 : Int32)), .val (.int vv42)] [(.int (1 : Int32))])) _
        refine XS.goto X42.here hx rfl (pc0 := 251) (pc' := 255) rfl (hb hby at_251) (by decide) (by decide) ?_
        show Steps p.tables e below (T42.setTop (mkF m 255 #[.val (.int p1), .val (.int p2), .val (.int p3), .val (.int p4), .val (.int p5), .val (.int p6), .val (.ref r1), .val (.ref r2), .val (.int (1 : Int32)), .val (.ref b23), .val (.ref b26), .val (.int nm), .val (.int av28), .val (.long ((av28.toInt64) + (p2.toInt64))), .second, .val (.int xe36), .val (.ref r37), .val (.int (1 : Int32)), .val (.int (1 : Int32)), .val (.int vv42)] [(.int (1 : Int32))])) _
        exact k
      obtain ⟨fs, hr, hrun, hended, hEnd⟩ := X42.leaveW hS (by rw [Kq42]; exact hk) (v := some (.int (1 : Int32))) (fun h => by rw [Bd.returns] at h; cases h)
      refine ⟨_, _, retN X42 hx (t := .boolean) Bd.returns (by simp) (hb hby at_255) hr, hfin _ _ ⟨hrun, hended, _, _, rfl, ?_, hEnd.1, hEnd.2.1, hEnd.2.2.1, hEnd.2.2.2.mono (by decide) (by decide)⟩⟩
      show Q0 Z p1 p2 p3 p4 p5 p6 w0 w1 w2 w3 w4 w5 zc dz kz h0 n0 _ T42.heap _
      rw [Kq42]
      exact ⟨rfl, N⟩
    · obtain ⟨T44, h44, X44, e44, E44, A44, D44, -, st44⟩ := newO X2 hx hZ hown (hw _ (own_g (i := 58) rfl)) (hw _ (own_g (i := 59) rfl)) (hw _ (own_g (i := 60) rfl)) rfl (g := (mkF m 26 #[.val (.int p1), .val (.int p2), .val (.int p3), .val (.int p4), .val (.int p5), .val (.int p6), .val (.ref r1), .val (.ref r2), .val (.int nk), .unset, .unset, .unset, .unset, .unset, .unset, .unset, .unset, .unset, .unset, .unset] [])) rfl (hb hby at_26) (by decide) (by decide)
      obtain ⟨b44, g44⟩ : ∃ z, z = T2.heap.size := ⟨_, rfl⟩
      rw [← g44] at A44 D44 st44
      have lt_r1_b44 : r1 < b44 := Nat.lt_of_lt_of_le Gq1_0.lt (Nat.le_of_eq g44.symm)
      have lt_r2_b44 : r2 < b44 := Nat.lt_of_lt_of_le Gq2_0.lt (Nat.le_of_eq g44.symm)
      have g_b44 : n0 ≤ b44 := Nat.le_trans (own_oldsz O) (Nat.le_of_eq g44.symm)
      replace Gq1_0 := Gq1_0.ext E44
      replace Gq2_0 := Gq2_0.ext E44
      replace O := O.ext E44
      replace hk := Nat.le_trans hk E44.1
      have F44_modCount : Fld Z h44 b44 "java/util/AbstractList" "modCount" "I" (.int (0 : Int32)) := D44 (Or.inl (hw _ (own_g (i := 78) rfl))) (ty := .int) (by decide)
      have F44_elementData : Fld Z h44 b44 "java/util/ArrayList" "elementData" "[Ljava/lang/Object;" .null := D44 (Or.inl (hw _ (own_g (i := 81) rfl))) (ty := (.array (.object "java/lang/Object"))) (by decide)
      have F44_size : Fld Z h44 b44 "java/util/ArrayList" "size" "I" (.int (0 : Int32)) := D44 (Or.inl (hw _ (own_g (i := 126) rfl))) (ty := .int) (by decide)
      refine own_go (B := T44.setTop (mkF m 29 #[.val (.int p1), .val (.int p2), .val (.int p3), .val (.int p4), .val (.int p5), .val (.int p6), .val (.ref r1), .val (.ref r2), .val (.int nk), .unset, .unset, .unset, .unset, .unset, .unset, .unset, .unset, .unset, .unset, .unset] [(.ref b44)])) st44 ?_
      have kt_ : nk = (2 : Int32) := (bnk.resolve_left kz_).resolve_left ko_
      subst kt_
      refine own_go (B := T44.setTop (mkF m 30 #[.val (.int p1), .val (.int p2), .val (.int p3), .val (.int p4), .val (.int p5), .val (.int p6), .val (.ref r1), .val (.ref r2), .val (.int (2 : Int32)), .unset, .unset, .unset, .unset, .unset, .unset, .unset, .unset, .unset, .unset, .unset] [(.ref b44), (.ref b44)])) (fun t k => ?_) ?_
      · show Steps p.tables e below (T44.setTop (mkF m 29 #[.val (.int p1), .val (.int p2), .val (.int p3), .val (.int p4), .val (.int p5), .val (.int p6), .val (.ref r1), .val (.ref r2), .val (.int (2 : Int32)), .unset, .unset, .unset, .unset, .unset, .unset, .unset, .unset, .unset, .unset, .unset] [(.ref b44)])) _
        refine XS.dup X44.here hx rfl (hb hby at_29) rfl rfl ?_
        show Steps p.tables e below (T44.setTop (mkF m 30 #[.val (.int p1), .val (.int p2), .val (.int p3), .val (.int p4), .val (.int p5), .val (.int p6), .val (.ref r1), .val (.ref r2), .val (.int (2 : Int32)), .unset, .unset, .unset, .unset, .unset, .unset, .unset, .unset, .unset, .unset, .unset] [(.ref b44), (.ref b44)])) _
        exact k
      -- pc 30: java/util/ArrayList.<init>
      obtain ⟨_, _, ⟨T45, L45, k45, n45⟩, -, X45, ⟨Lc45, hQ45, l45, y45, z45⟩, st45⟩ := X44.specialBack hx (y := (⟨"java/util/ArrayList", "<init>", "()V"⟩ : MethodName)) rfl hown (mvT hZ (hw _ (own_g (i := 61) rfl))) (mvT hZ (hw _ (own_g (i := 62) rfl))) (mvT hZ (hw _ (own_g (i := 63) rfl))) (by decide) (backOf (W := 1) (rmAlI l Z a0 hw [] b44 dz h44 n0 O A44 F44_modCount F44_elementData F44_size g_b44 S_D) hZ (hw _ (own_g (i := 63) rfl)) (hw _ (own_g (i := 60) rfl)) (by decide) (by decide)) (g := (mkF m 30 #[.val (.int p1), .val (.int p2), .val (.int p3), .val (.int p4), .val (.int p5), .val (.int p6), .val (.ref r1), .val (.ref r2), .val (.int (2 : Int32)), .unset, .unset, .unset, .unset, .unset, .unset, .unset, .unset, .unset, .unset, .unset] [(.ref b44), (.ref b44)])) rfl (by rw [hml]; rfl) (Steps.refl _) (a := b44) (argsL := []) (rest := [(.ref b44)]) (lenOf pd_3 rfl) rfl (by show 2 * 0 + _ ≤ _; exact Nat.le_of_eq rfl) (hb hby at_30) (fun _ hWm => ⟨rfl, e44, (by decide : 7 + 0 ≤ _), (by decide : 21 + 0 ≤ _)⟩)
      dsimp only [Pt.U, Pt.locs, Pt.cells, Pt.slots] at X45 l45 y45 z45 st45 hQ45
      subst l45 y45 z45
      obtain ⟨rfl, Nq45, Kq45, Gq45_0, Gq45_1, Gq45_2⟩ := hQ45
      replace N := Fr.app N Nq45
      replace Gq1_0 := Gq1_0.keep Kq45
      replace Gq2_0 := Gq2_0.keep Kq45
      replace A44 := A44.keep Kq45
      clear F44_modCount
      clear F44_elementData
      clear F44_size
      replace O := O.keep Kq45 (allS g_b44 all0)
      replace hk := Nat.le_trans hk Kq45.1
      refine own_go (B := T45.setTop (mkF m 33 #[.val (.int p1), .val (.int p2), .val (.int p3), .val (.int p4), .val (.int p5), .val (.int p6), .val (.ref r1), .val (.ref r2), .val (.int (2 : Int32)), .unset, .unset, .unset, .unset, .unset, .unset, .unset, .unset, .unset, .unset, .unset] [(.ref b44)])) (fun t k => st45.trans k) ?_
      refine own_go (B := T45.setTop (mkF m 45 #[.val (.int p1), .val (.int p2), .val (.int p3), .val (.int p4), .val (.int p5), .val (.int p6), .val (.ref r1), .val (.ref r2), .val (.int (2 : Int32)), .val (.ref b44), .unset, .unset, .unset, .unset, .unset, .unset, .unset, .unset, .unset, .unset] [(.ref r1), (.ref b44)])) (fun t k => ?_) ?_
      · show Steps p.tables e below (T45.setTop (mkF m 33 #[.val (.int p1), .val (.int p2), .val (.int p3), .val (.int p4), .val (.int p5), .val (.int p6), .val (.ref r1), .val (.ref r2), .val (.int (2 : Int32)), .unset, .unset, .unset, .unset, .unset, .unset, .unset, .unset, .unset, .unset, .unset] [(.ref b44)])) _
        refine XS.astore X45.here hx rfl (hb hby at_33) rfl rfl (l' := #[.val (.int p1), .val (.int p2), .val (.int p3), .val (.int p4), .val (.int p5), .val (.int p6), .val (.ref r1), .val (.ref r2), .val (.int (2 : Int32)), .val (.ref b44), .unset, .unset, .unset, .unset, .unset, .unset, .unset, .unset, .unset, .unset]) rfl ?_
        show Steps p.tables e below (T45.setTop (mkF m 35 #[.val (.int p1), .val (.int p2), .val (.int p3), .val (.int p4), .val (.int p5), .val (.int p6), .val (.ref r1), .val (.ref r2), .val (.int (2 : Int32)), .val (.ref b44), .unset, .unset, .unset, .unset, .unset, .unset, .unset, .unset, .unset, .unset] [])) _
        refine XS.iload X45.here hx rfl (hb hby at_35) rfl ?_
        show Steps p.tables e below (T45.setTop (mkF m 37 #[.val (.int p1), .val (.int p2), .val (.int p3), .val (.int p4), .val (.int p5), .val (.int p6), .val (.ref r1), .val (.ref r2), .val (.int (2 : Int32)), .val (.ref b44), .unset, .unset, .unset, .unset, .unset, .unset, .unset, .unset, .unset, .unset] [(.int (2 : Int32))])) _
        refine XS.iconst X45.here hx rfl (hb hby at_37) ?_
        show Steps p.tables e below (T45.setTop (mkF m 38 #[.val (.int p1), .val (.int p2), .val (.int p3), .val (.int p4), .val (.int p5), .val (.int p6), .val (.ref r1), .val (.ref r2), .val (.int (2 : Int32)), .val (.ref b44), .unset, .unset, .unset, .unset, .unset, .unset, .unset, .unset, .unset, .unset] [(.int (1 : Int32)), (.int (2 : Int32))])) _
        refine XS.icmpNo X45.here hx rfl (hb hby at_38) rfl (flt (by decide)).1 ?_
        show Steps p.tables e below (T45.setTop (mkF m 41 #[.val (.int p1), .val (.int p2), .val (.int p3), .val (.int p4), .val (.int p5), .val (.int p6), .val (.ref r1), .val (.ref r2), .val (.int (2 : Int32)), .val (.ref b44), .unset, .unset, .unset, .unset, .unset, .unset, .unset, .unset, .unset, .unset] [])) _
        refine XS.aload X45.here hx rfl (hb hby at_41) rfl rfl ?_
        show Steps p.tables e below (T45.setTop (mkF m 43 #[.val (.int p1), .val (.int p2), .val (.int p3), .val (.int p4), .val (.int p5), .val (.int p6), .val (.ref r1), .val (.ref r2), .val (.int (2 : Int32)), .val (.ref b44), .unset, .unset, .unset, .unset, .unset, .unset, .unset, .unset, .unset, .unset] [(.ref b44)])) _
        refine XS.aload X45.here hx rfl (hb hby at_43) rfl rfl ?_
        show Steps p.tables e below (T45.setTop (mkF m 45 #[.val (.int p1), .val (.int p2), .val (.int p3), .val (.int p4), .val (.int p5), .val (.int p6), .val (.ref r1), .val (.ref r2), .val (.int (2 : Int32)), .val (.ref b44), .unset, .unset, .unset, .unset, .unset, .unset, .unset, .unset, .unset, .unset] [(.ref r1), (.ref b44)])) _
        exact k
      -- pc 45: java/util/ArrayList.add
      obtain ⟨cq46, kq46, q46a, q46b, q46c⟩ := isOf hZ rfl A44
      obtain ⟨_, _, ⟨T46, L46, k46, n46⟩, -, X46, ⟨Lc46, hQ46, l46, y46, z46⟩, st46⟩ := X45.interfaceBack hx (xi := (⟨"java/util/List", "add", "(Ljava/lang/Object;)Z"⟩ : MethodName)) (y := (⟨"java/util/ArrayList", "add", "(Ljava/lang/Object;)Z"⟩ : MethodName)) hown (mvT hZ (hw _ (own_g (i := 138) rfl))) (mvT hZ (hw _ (own_g (i := 139) rfl))) (mvT hZ (hw _ (own_g (i := 140) rfl))) (mvT hZ (hw _ (own_g (i := 141) rfl))) (mvT hZ (hw _ (own_g (i := 142) rfl))) (mvT hZ (hw _ (own_g (i := 143) rfl))) (mvT hZ (hw _ (own_g (i := 144) rfl))) (mvT hZ (hw _ (own_g (i := 123) rfl))) (by decide) (backOf (W := 0) (rmA10 l Z a0 hw [] b44 r1 (0 : Int32) dz kz T45.heap n0 O A44 Gq45_0 Gq45_1 Gq45_2 g_b44 S_D V_Z Gq1_0) hZ (hw _ (own_g (i := 145) rfl)) (hw _ (own_g (i := 60) rfl)) (by decide) (by decide)) q46a q46b q46c (g := (mkF m 45 #[.val (.int p1), .val (.int p2), .val (.int p3), .val (.int p4), .val (.int p5), .val (.int p6), .val (.ref r1), .val (.ref r2), .val (.int (2 : Int32)), .val (.ref b44), .unset, .unset, .unset, .unset, .unset, .unset, .unset, .unset, .unset, .unset] [(.ref r1), (.ref b44)])) rfl (by rw [hml]; rfl) (Steps.refl _) (argsL := [(.ref r1)]) (rest := []) (lenOf pd_19 rfl) rfl (by show 2 * 0 + _ ≤ _; exact Nat.le_of_eq rfl) (hb hby at_45) (fun _ hWm => ⟨rfl, rfl, (by decide : 7 + 1 ≤ _), (by decide : 21 + 10 ≤ _)⟩)
      dsimp only [Pt.U, Pt.locs, Pt.cells, Pt.slots] at X46 l46 y46 z46 st46 hQ46
      subst l46 y46 z46
      obtain ⟨da46, kda46, rfl, Nq46, Kq46, fq46_da, Gq46_0, Gq46_1, Gq46_2, Gq46_3, cq46_0⟩ := hQ46
      replace N := Fr.app N Nq46
      have lt_r1_da46 : r1 < da46 := Nat.lt_of_lt_of_le Gq1_0.lt fq46_da
      have lt_r2_da46 : r2 < da46 := Nat.lt_of_lt_of_le Gq2_0.lt fq46_da
      have lt_b44_da46 : b44 < da46 := Nat.lt_of_lt_of_le A44.lt fq46_da
      have g_da46 : n0 ≤ da46 := Nat.le_trans (own_oldsz O) fq46_da
      replace Gq1_0 := Gq1_0.keep Kq46
      replace Gq2_0 := Gq2_0.keep Kq46
      replace A44 := A44.keep Kq46
      clear Gq45_0
      clear Gq45_1
      clear Gq45_2
      replace O := O.keep Kq46 (allS g_b44 all0)
      replace hk := Nat.le_trans hk Kq46.1
      refine own_go (B := T46.setTop (mkF m 50 #[.val (.int p1), .val (.int p2), .val (.int p3), .val (.int p4), .val (.int p5), .val (.int p6), .val (.ref r1), .val (.ref r2), .val (.int (2 : Int32)), .val (.ref b44), .unset, .unset, .unset, .unset, .unset, .unset, .unset, .unset, .unset, .unset] [(.int (1 : Int32))])) (fun t k => st46.trans k) ?_
      refine own_go (B := T46.setTop (mkF m 61 #[.val (.int p1), .val (.int p2), .val (.int p3), .val (.int p4), .val (.int p5), .val (.int p6), .val (.ref r1), .val (.ref r2), .val (.int (2 : Int32)), .val (.ref b44), .unset, .unset, .unset, .unset, .unset, .unset, .unset, .unset, .unset, .unset] [(.ref r2), (.ref b44)])) (fun t k => ?_) ?_
      · show Steps p.tables e below (T46.setTop (mkF m 50 #[.val (.int p1), .val (.int p2), .val (.int p3), .val (.int p4), .val (.int p5), .val (.int p6), .val (.ref r1), .val (.ref r2), .val (.int (2 : Int32)), .val (.ref b44), .unset, .unset, .unset, .unset, .unset, .unset, .unset, .unset, .unset, .unset] [(.int (1 : Int32))])) _
        refine XS.pop X46.here hx rfl (hb hby at_50) rfl rfl ?_
        show Steps p.tables e below (T46.setTop (mkF m 51 #[.val (.int p1), .val (.int p2), .val (.int p3), .val (.int p4), .val (.int p5), .val (.int p6), .val (.ref r1), .val (.ref r2), .val (.int (2 : Int32)), .val (.ref b44), .unset, .unset, .unset, .unset, .unset, .unset, .unset, .unset, .unset, .unset] [])) _
        refine XS.iload X46.here hx rfl (hb hby at_51) rfl ?_
        show Steps p.tables e below (T46.setTop (mkF m 53 #[.val (.int p1), .val (.int p2), .val (.int p3), .val (.int p4), .val (.int p5), .val (.int p6), .val (.ref r1), .val (.ref r2), .val (.int (2 : Int32)), .val (.ref b44), .unset, .unset, .unset, .unset, .unset, .unset, .unset, .unset, .unset, .unset] [(.int (2 : Int32))])) _
        refine XS.iconst X46.here hx rfl (hb hby at_53) ?_
        show Steps p.tables e below (T46.setTop (mkF m 54 #[.val (.int p1), .val (.int p2), .val (.int p3), .val (.int p4), .val (.int p5), .val (.int p6), .val (.ref r1), .val (.ref r2), .val (.int (2 : Int32)), .val (.ref b44), .unset, .unset, .unset, .unset, .unset, .unset, .unset, .unset, .unset, .unset] [(.int (2 : Int32)), (.int (2 : Int32))])) _
        refine XS.icmpNo X46.here hx rfl (hb hby at_54) rfl (flt (by decide)).1 ?_
        show Steps p.tables e below (T46.setTop (mkF m 57 #[.val (.int p1), .val (.int p2), .val (.int p3), .val (.int p4), .val (.int p5), .val (.int p6), .val (.ref r1), .val (.ref r2), .val (.int (2 : Int32)), .val (.ref b44), .unset, .unset, .unset, .unset, .unset, .unset, .unset, .unset, .unset, .unset] [])) _
        refine XS.aload X46.here hx rfl (hb hby at_57) rfl rfl ?_
        show Steps p.tables e below (T46.setTop (mkF m 59 #[.val (.int p1), .val (.int p2), .val (.int p3), .val (.int p4), .val (.int p5), .val (.int p6), .val (.ref r1), .val (.ref r2), .val (.int (2 : Int32)), .val (.ref b44), .unset, .unset, .unset, .unset, .unset, .unset, .unset, .unset, .unset, .unset] [(.ref b44)])) _
        refine XS.aload X46.here hx rfl (hb hby at_59) rfl rfl ?_
        show Steps p.tables e below (T46.setTop (mkF m 61 #[.val (.int p1), .val (.int p2), .val (.int p3), .val (.int p4), .val (.int p5), .val (.int p6), .val (.ref r1), .val (.ref r2), .val (.int (2 : Int32)), .val (.ref b44), .unset, .unset, .unset, .unset, .unset, .unset, .unset, .unset, .unset, .unset] [(.ref r2), (.ref b44)])) _
        exact k
      -- pc 61: java/util/ArrayList.add
      obtain ⟨cq47, kq47, q47a, q47b, q47c⟩ := isOf hZ rfl A44
      obtain ⟨_, _, ⟨T47, L47, k47, n47⟩, -, X47, ⟨Lc47, hQ47, l47, y47, z47⟩, st47⟩ := X46.interfaceBack hx (xi := (⟨"java/util/List", "add", "(Ljava/lang/Object;)Z"⟩ : MethodName)) (y := (⟨"java/util/ArrayList", "add", "(Ljava/lang/Object;)Z"⟩ : MethodName)) hown (mvT hZ (hw _ (own_g (i := 138) rfl))) (mvT hZ (hw _ (own_g (i := 139) rfl))) (mvT hZ (hw _ (own_g (i := 140) rfl))) (mvT hZ (hw _ (own_g (i := 141) rfl))) (mvT hZ (hw _ (own_g (i := 142) rfl))) (mvT hZ (hw _ (own_g (i := 143) rfl))) (mvT hZ (hw _ (own_g (i := 144) rfl))) (mvT hZ (hw _ (own_g (i := 123) rfl))) (by decide) (backOf (W := 0) (rmA11 l Z a0 hw [] b44 r2 ((0 : Int32) + (1 : Int32)) da46 kda46 r1 T46.heap n0 O A44 Gq46_0 Gq46_1 Gq46_2 g_b44 Gq46_3 g_da46 (Nat.ne_of_lt lt_b44_da46) Gq2_0 cq46_0) hZ (hw _ (own_g (i := 145) rfl)) (hw _ (own_g (i := 60) rfl)) (by decide) (by decide)) q47a q47b q47c (g := (mkF m 61 #[.val (.int p1), .val (.int p2), .val (.int p3), .val (.int p4), .val (.int p5), .val (.int p6), .val (.ref r1), .val (.ref r2), .val (.int (2 : Int32)), .val (.ref b44), .unset, .unset, .unset, .unset, .unset, .unset, .unset, .unset, .unset, .unset] [(.ref r2), (.ref b44)])) rfl (by rw [hml]; rfl) (Steps.refl _) (argsL := [(.ref r2)]) (rest := []) (lenOf pd_19 rfl) rfl (by show 2 * 0 + _ ≤ _; exact Nat.le_of_eq rfl) (hb hby at_61) (fun _ hWm => ⟨rfl, rfl, (by decide : 8 + 0 ≤ _), (by decide : 31 + 0 ≤ _)⟩)
      dsimp only [Pt.U, Pt.locs, Pt.cells, Pt.slots] at X47 l47 y47 z47 st47 hQ47
      subst l47 y47 z47
      obtain ⟨rfl, Nq47, Kq47, Gq47_0, Gq47_1, Gq47_2, Gq47_3⟩ := hQ47
      replace N := Fr.app N Nq47
      replace Gq1_0 := Gq1_0.keep Kq47
      replace Gq2_0 := Gq2_0.keep Kq47
      replace A44 := A44.keep Kq47
      clear Gq46_0
      clear Gq46_1
      clear Gq46_2
      clear Gq46_3
      replace O := O.keep Kq47 (allS g_b44 (allS g_da46 all0))
      replace hk := Nat.le_trans hk Kq47.1
      refine own_go (B := T47.setTop (mkF m 66 #[.val (.int p1), .val (.int p2), .val (.int p3), .val (.int p4), .val (.int p5), .val (.int p6), .val (.ref r1), .val (.ref r2), .val (.int (2 : Int32)), .val (.ref b44), .unset, .unset, .unset, .unset, .unset, .unset, .unset, .unset, .unset, .unset] [(.int (1 : Int32))])) (fun t k => st47.trans k) ?_
      refine own_go (B := T47.setTop (mkF m 67 #[.val (.int p1), .val (.int p2), .val (.int p3), .val (.int p4), .val (.int p5), .val (.int p6), .val (.ref r1), .val (.ref r2), .val (.int (2 : Int32)), .val (.ref b44), .unset, .unset, .unset, .unset, .unset, .unset, .unset, .unset, .unset, .unset] [])) (fun t k => ?_) ?_
      · show Steps p.tables e below (T47.setTop (mkF m 66 #[.val (.int p1), .val (.int p2), .val (.int p3), .val (.int p4), .val (.int p5), .val (.int p6), .val (.ref r1), .val (.ref r2), .val (.int (2 : Int32)), .val (.ref b44), .unset, .unset, .unset, .unset, .unset, .unset, .unset, .unset, .unset, .unset] [(.int (1 : Int32))])) _
        refine XS.pop X47.here hx rfl (hb hby at_66) rfl rfl ?_
        show Steps p.tables e below (T47.setTop (mkF m 67 #[.val (.int p1), .val (.int p2), .val (.int p3), .val (.int p4), .val (.int p5), .val (.int p6), .val (.ref r1), .val (.ref r2), .val (.int (2 : Int32)), .val (.ref b44), .unset, .unset, .unset, .unset, .unset, .unset, .unset, .unset, .unset, .unset] [])) _
        exact k
      obtain ⟨T48, h48, X48, e48, E48, A48, D48, -, st48⟩ := newO X47 hx hZ hown (hw _ (own_g (i := 82) rfl)) (hw _ (own_g (i := 83) rfl)) (hw _ (own_g (i := 2) rfl)) rfl (g := (mkF m 67 #[.val (.int p1), .val (.int p2), .val (.int p3), .val (.int p4), .val (.int p5), .val (.int p6), .val (.ref r1), .val (.ref r2), .val (.int (2 : Int32)), .val (.ref b44), .unset, .unset, .unset, .unset, .unset, .unset, .unset, .unset, .unset, .unset] [])) rfl (hb hby at_67) (by decide) (by decide)
      obtain ⟨b48, g48⟩ : ∃ z, z = T47.heap.size := ⟨_, rfl⟩
      rw [← g48] at A48 D48 st48
      have lt_r1_b48 : r1 < b48 := Nat.lt_of_lt_of_le Gq1_0.lt (Nat.le_of_eq g48.symm)
      have lt_r2_b48 : r2 < b48 := Nat.lt_of_lt_of_le Gq2_0.lt (Nat.le_of_eq g48.symm)
      have lt_b44_b48 : b44 < b48 := Nat.lt_of_lt_of_le A44.lt (Nat.le_of_eq g48.symm)
      have lt_da46_b48 : da46 < b48 := Nat.lt_of_lt_of_le Gq47_3.lt (Nat.le_of_eq g48.symm)
      have g_b48 : n0 ≤ b48 := Nat.le_trans (own_oldsz O) (Nat.le_of_eq g48.symm)
      replace Gq1_0 := Gq1_0.ext E48
      replace Gq2_0 := Gq2_0.ext E48
      replace A44 := A44.ext E48
      replace Gq47_0 := Gq47_0.ext E48
      replace Gq47_1 := Gq47_1.ext E48
      replace Gq47_2 := Gq47_2.ext E48
      replace Gq47_3 := Gq47_3.ext E48
      replace O := O.ext E48
      replace hk := Nat.le_trans hk E48.1
      have F48_tokens : Fld Z h48 b48 "com/example/nasute/nasute/sql/TokenCursor" "tokens" "Ljava/util/List;" .null := D48 (Or.inr (hw _ (own_g (i := 94) rfl))) (ty := (.object "java/util/List")) (by decide)
      have F48_end : Fld Z h48 b48 "com/example/nasute/nasute/sql/TokenCursor" "end" "Lcom/example/nasute/nasute/sql/Token;" .null := D48 (Or.inr (hw _ (own_g (i := 103) rfl))) (ty := (.object "com/example/nasute/nasute/sql/Token")) (by decide)
      have F48_at : Fld Z h48 b48 "com/example/nasute/nasute/sql/TokenCursor" "at" "I" (.int (0 : Int32)) := D48 (Or.inl (hw _ (own_g (i := 115) rfl))) (ty := .int) (by decide)
      refine own_go (B := T48.setTop (mkF m 70 #[.val (.int p1), .val (.int p2), .val (.int p3), .val (.int p4), .val (.int p5), .val (.int p6), .val (.ref r1), .val (.ref r2), .val (.int (2 : Int32)), .val (.ref b44), .unset, .unset, .unset, .unset, .unset, .unset, .unset, .unset, .unset, .unset] [(.ref b48)])) st48 ?_
      refine own_go (B := T48.setTop (mkF m 74 #[.val (.int p1), .val (.int p2), .val (.int p3), .val (.int p4), .val (.int p5), .val (.int p6), .val (.ref r1), .val (.ref r2), .val (.int (2 : Int32)), .val (.ref b44), .unset, .unset, .unset, .unset, .unset, .unset, .unset, .unset, .unset, .unset] [(.int p3), (.ref b44), (.ref b48), (.ref b48)])) (fun t k => ?_) ?_
      · show Steps p.tables e below (T48.setTop (mkF m 70 #[.val (.int p1), .val (.int p2), .val (.int p3), .val (.int p4), .val (.int p5), .val (.int p6), .val (.ref r1), .val (.ref r2), .val (.int (2 : Int32)), .val (.ref b44), .unset, .unset, .unset, .unset, .unset, .unset, .unset, .unset, .unset, .unset] [(.ref b48)])) _
        refine XS.dup X48.here hx rfl (hb hby at_70) rfl rfl ?_
        show Steps p.tables e below (T48.setTop (mkF m 71 #[.val (.int p1), .val (.int p2), .val (.int p3), .val (.int p4), .val (.int p5), .val (.int p6), .val (.ref r1), .val (.ref r2), .val (.int (2 : Int32)), .val (.ref b44), .unset, .unset, .unset, .unset, .unset, .unset, .unset, .unset, .unset, .unset] [(.ref b48), (.ref b48)])) _
        refine XS.aload X48.here hx rfl (hb hby at_71) rfl rfl ?_
        show Steps p.tables e below (T48.setTop (mkF m 73 #[.val (.int p1), .val (.int p2), .val (.int p3), .val (.int p4), .val (.int p5), .val (.int p6), .val (.ref r1), .val (.ref r2), .val (.int (2 : Int32)), .val (.ref b44), .unset, .unset, .unset, .unset, .unset, .unset, .unset, .unset, .unset, .unset] [(.ref b44), (.ref b48), (.ref b48)])) _
        refine XS.iloadN X48.here hx rfl (hb hby at_73) rfl ?_
        show Steps p.tables e below (T48.setTop (mkF m 74 #[.val (.int p1), .val (.int p2), .val (.int p3), .val (.int p4), .val (.int p5), .val (.int p6), .val (.ref r1), .val (.ref r2), .val (.int (2 : Int32)), .val (.ref b44), .unset, .unset, .unset, .unset, .unset, .unset, .unset, .unset, .unset, .unset] [(.int p3), (.ref b44), (.ref b48), (.ref b48)])) _
        exact k
      -- pc 74: com/example/nasute/nasute/sql/TokenCursorIsTextEndPinLaw.<init>
      obtain ⟨_, _, ⟨T49, L49, k49, n49⟩, -, X49, hSq49, hgq49, ⟨Lc49, hQ49, l49, y49, z49⟩, st49⟩ := X48.specialBackS hx (y := (⟨"com/example/nasute/nasute/sql/TokenCursorIsTextEndPinLaw", "<init>", "(Ljava/util/List;I)V"⟩ : MethodName)) rfl hown (mvT hZ (hw _ (own_g (i := 84) rfl))) (mvT hZ (hw _ (own_g (i := 85) rfl))) (mvT hZ (hw _ (own_g (i := 86) rfl))) (by decide) (backOfS (W := 1) (rmPlI l Z a0 hw [] b48 b44 p3 w5 h48 n0 O A48 F48_tokens F48_end F48_at g_b48 S_5) hZ (hw _ (own_g (i := 86) rfl)) (hw _ (own_g (i := 2) rfl)) (by decide) (by decide)) (g := (mkF m 74 #[.val (.int p1), .val (.int p2), .val (.int p3), .val (.int p4), .val (.int p5), .val (.int p6), .val (.ref r1), .val (.ref r2), .val (.int (2 : Int32)), .val (.ref b44), .unset, .unset, .unset, .unset, .unset, .unset, .unset, .unset, .unset, .unset] [(.int p3), (.ref b44), (.ref b48), (.ref b48)])) rfl (by rw [hml]; rfl) (Steps.refl _) (a := b48) (argsL := [(.ref b44), (.int p3)]) (rest := [(.ref b48)]) (lenOf pd_13 rfl) rfl (by show 2 * 0 + _ ≤ _; exact Nat.le_of_eq rfl) (hb hby at_74) (fun _ hWm => ⟨rfl, e48, (by decide : 9 + 3 ≤ _), (by decide : 34 + 8 ≤ _)⟩)
      dsimp only [Pt.U, Pt.locs, Pt.cells, Pt.slots] at X49 l49 y49 z49 st49 hQ49 hSq49 hgq49
      subst l49 y49 z49
      obtain ⟨X49, hS, hZ, hown⟩ := rebS hS (by rw [e48]; exact hk) X49 hSq49 hgq49 hZ hown
      obtain ⟨en49, rfl, Nq49, Kq49, fq49_en, Gq49_0, Gq49_1, Gq49_2, Gq49_3⟩ := hQ49
      replace N := Fr.app N Nq49
      have lt_r1_en49 : r1 < en49 := Nat.lt_of_lt_of_le Gq1_0.lt fq49_en
      have lt_r2_en49 : r2 < en49 := Nat.lt_of_lt_of_le Gq2_0.lt fq49_en
      have lt_b44_en49 : b44 < en49 := Nat.lt_of_lt_of_le A44.lt fq49_en
      have lt_da46_en49 : da46 < en49 := Nat.lt_of_lt_of_le Gq47_3.lt fq49_en
      have lt_b48_en49 : b48 < en49 := Nat.lt_of_lt_of_le A48.lt fq49_en
      have g_en49 : n0 ≤ en49 := Nat.le_trans (own_oldsz O) fq49_en
      replace Gq1_0 := Gq1_0.keep Kq49
      replace Gq2_0 := Gq2_0.keep Kq49
      replace A44 := A44.keep Kq49
      replace Gq47_0 := Gq47_0.keep Kq49 (ninS (Nat.ne_of_lt lt_b44_b48) nin0)
      replace Gq47_1 := Gq47_1.keep Kq49 (ninS (Nat.ne_of_lt lt_b44_b48) nin0)
      replace Gq47_2 := Gq47_2.keep Kq49 (ninS (Nat.ne_of_lt lt_b44_b48) nin0)
      replace Gq47_3 := Gq47_3.keep Kq49 (ninS (Nat.ne_of_lt lt_da46_b48) nin0)
      replace A48 := A48.keep Kq49
      clear F48_tokens
      clear F48_end
      clear F48_at
      replace O := O.keep Kq49 (allS g_b48 all0)
      have hk : T49.heap.size ≤ T49.heap.size := Nat.le_refl _
      refine own_go (B := T49.setTop (mkF m 77 #[.val (.int p1), .val (.int p2), .val (.int p3), .val (.int p4), .val (.int p5), .val (.int p6), .val (.ref r1), .val (.ref r2), .val (.int (2 : Int32)), .val (.ref b44), .unset, .unset, .unset, .unset, .unset, .unset, .unset, .unset, .unset, .unset] [(.ref b48)])) (fun t k => st49.trans k) ?_
      refine own_go (B := T49.setTop (mkF m 88 #[.val (.int p1), .val (.int p2), .val (.int p3), .val (.int p4), .val (.int p5), .val (.int p6), .val (.ref r1), .val (.ref r2), .val (.int (2 : Int32)), .val (.ref b44), .val (.ref b48), .val (.int (((p6.toUInt32 >>> ((6 : Int32) &&& 31).toUInt32).toInt32) &&& (3 : Int32))), .unset, .unset, .unset, .unset, .unset, .unset, .unset, .unset] [])) (fun t k => ?_) ?_
      · show Steps p.tables e below (T49.setTop (mkF m 77 #[.val (.int p1), .val (.int p2), .val (.int p3), .val (.int p4), .val (.int p5), .val (.int p6), .val (.ref r1), .val (.ref r2), .val (.int (2 : Int32)), .val (.ref b44), .unset, .unset, .unset, .unset, .unset, .unset, .unset, .unset, .unset, .unset] [(.ref b48)])) _
        refine XS.astore X49.here hx rfl (hb hby at_77) rfl rfl (l' := #[.val (.int p1), .val (.int p2), .val (.int p3), .val (.int p4), .val (.int p5), .val (.int p6), .val (.ref r1), .val (.ref r2), .val (.int (2 : Int32)), .val (.ref b44), .val (.ref b48), .unset, .unset, .unset, .unset, .unset, .unset, .unset, .unset, .unset]) rfl ?_
        show Steps p.tables e below (T49.setTop (mkF m 79 #[.val (.int p1), .val (.int p2), .val (.int p3), .val (.int p4), .val (.int p5), .val (.int p6), .val (.ref r1), .val (.ref r2), .val (.int (2 : Int32)), .val (.ref b44), .val (.ref b48), .unset, .unset, .unset, .unset, .unset, .unset, .unset, .unset, .unset] [])) _
        refine XS.iload X49.here hx rfl (hb hby at_79) rfl ?_
        show Steps p.tables e below (T49.setTop (mkF m 81 #[.val (.int p1), .val (.int p2), .val (.int p3), .val (.int p4), .val (.int p5), .val (.int p6), .val (.ref r1), .val (.ref r2), .val (.int (2 : Int32)), .val (.ref b44), .val (.ref b48), .unset, .unset, .unset, .unset, .unset, .unset, .unset, .unset, .unset] [(.int p6)])) _
        refine XS.bipush X49.here hx rfl (hb hby at_81) ?_
        show Steps p.tables e below (T49.setTop (mkF m 83 #[.val (.int p1), .val (.int p2), .val (.int p3), .val (.int p4), .val (.int p5), .val (.int p6), .val (.ref r1), .val (.ref r2), .val (.int (2 : Int32)), .val (.ref b44), .val (.ref b48), .unset, .unset, .unset, .unset, .unset, .unset, .unset, .unset, .unset] [(.int (6 : Int32)), (.int p6)])) _
        refine XS.iushr X49.here hx rfl (hb hby at_83) rfl ?_
        show Steps p.tables e below (T49.setTop (mkF m 84 #[.val (.int p1), .val (.int p2), .val (.int p3), .val (.int p4), .val (.int p5), .val (.int p6), .val (.ref r1), .val (.ref r2), .val (.int (2 : Int32)), .val (.ref b44), .val (.ref b48), .unset, .unset, .unset, .unset, .unset, .unset, .unset, .unset, .unset] [(.int ((p6.toUInt32 >>> ((6 : Int32) &&& 31).toUInt32).toInt32))])) _
        refine XS.iconst X49.here hx rfl (hb hby at_84) ?_
        show Steps p.tables e below (T49.setTop (mkF m 85 #[.val (.int p1), .val (.int p2), .val (.int p3), .val (.int p4), .val (.int p5), .val (.int p6), .val (.ref r1), .val (.ref r2), .val (.int (2 : Int32)), .val (.ref b44), .val (.ref b48), .unset, .unset, .unset, .unset, .unset, .unset, .unset, .unset, .unset] [(.int (3 : Int32)), (.int ((p6.toUInt32 >>> ((6 : Int32) &&& 31).toUInt32).toInt32))])) _
        refine XS.iand X49.here hx rfl (hb hby at_85) rfl ?_
        show Steps p.tables e below (T49.setTop (mkF m 86 #[.val (.int p1), .val (.int p2), .val (.int p3), .val (.int p4), .val (.int p5), .val (.int p6), .val (.ref r1), .val (.ref r2), .val (.int (2 : Int32)), .val (.ref b44), .val (.ref b48), .unset, .unset, .unset, .unset, .unset, .unset, .unset, .unset, .unset] [(.int (((p6.toUInt32 >>> ((6 : Int32) &&& 31).toUInt32).toInt32) &&& (3 : Int32)))])) _
        refine XS.istore X49.here hx rfl (hb hby at_86) rfl (l' := #[.val (.int p1), .val (.int p2), .val (.int p3), .val (.int p4), .val (.int p5), .val (.int p6), .val (.ref r1), .val (.ref r2), .val (.int (2 : Int32)), .val (.ref b44), .val (.ref b48), .val (.int (((p6.toUInt32 >>> ((6 : Int32) &&& 31).toUInt32).toInt32) &&& (3 : Int32))), .unset, .unset, .unset, .unset, .unset, .unset, .unset, .unset]) rfl ?_
        show Steps p.tables e below (T49.setTop (mkF m 88 #[.val (.int p1), .val (.int p2), .val (.int p3), .val (.int p4), .val (.int p5), .val (.int p6), .val (.ref r1), .val (.ref r2), .val (.int (2 : Int32)), .val (.ref b44), .val (.ref b48), .val (.int (((p6.toUInt32 >>> ((6 : Int32) &&& 31).toUInt32).toInt32) &&& (3 : Int32))), .unset, .unset, .unset, .unset, .unset, .unset, .unset, .unset] [])) _
        exact k
      obtain ⟨nm, hnm⟩ : ∃ z : Int32, z = (((p6.toUInt32 >>> ((6 : Int32) &&& 31).toUInt32).toInt32) &&& (3 : Int32)) := ⟨_, rfl⟩
      rw [← hnm]
      have bnm : nm = (0 : Int32) ∨ nm = (1 : Int32) ∨ nm = (2 : Int32) ∨ nm = (3 : Int32) := by rw [hnm]; exact own_mask3 _
      suffices hseg50 : ∀ (T50 : State) (vm50 : Vm) (kk50 : Nat) (h50 : Heap) (L50 : List Loc) (av50 : Int32), Stand p l e room_1 (s.setVm vm50) m #[(.int p1), (.int p2), (.int p3), (.int p4), (.int p5), (.int p6)] below meth c T50 L50 12 42 → T50.heap = h50 → Fr n0 L50 → s.Since vm50 kk50 → kk50 ≤ h50.size → Z.Warmed39 (s.setVm vm50).vm → (s.setVm vm50).vm.findClass "com/example/nasute/nasute/sql/TokenCursorIsTextEndPinLaw" = some m.cls → Old Z n0 h50 → Exa Z h50 r1 "com/example/nasute/nasute/sql/Token" → Exa Z h50 r2 "com/example/nasute/nasute/sql/Token" → Exa Z h50 b44 "java/util/ArrayList" → Fld Z h50 b44 "java/util/AbstractList" "modCount" "I" (.int (((0 : Int32) + (1 : Int32)) + (1 : Int32))) → Fld Z h50 b44 "java/util/ArrayList" "elementData" "[Ljava/lang/Object;" (.ref da46) → Fld Z h50 b44 "java/util/ArrayList" "size" "I" (.int (2 : Int32)) → Arv Z h50 da46 kda46 (.object "java/lang/Object") (10 : Int32) [(.ref r1), (.ref r2), .null, .null, .null, .null, .null, .null, .null, .null] .null → Exa Z h50 b48 "com/example/nasute/nasute/sql/TokenCursorIsTextEndPinLaw" → Exa Z h50 en49 "com/example/nasute/nasute/sql/Token" → Fld Z h50 b48 "com/example/nasute/nasute/sql/TokenCursor" "tokens" "Ljava/util/List;" (.ref b44) → Fld Z h50 b48 "com/example/nasute/nasute/sql/TokenCursor" "end" "Lcom/example/nasute/nasute/sql/Token;" (.ref en49) → Fld Z h50 b48 "com/example/nasute/nasute/sql/TokenCursor" "at" "I" (.int av50) → (av50 = if (2 : Int32) < nm then (2 : Int32) else nm) → (0 ≤ av50.toInt ∧ av50.toInt ≤ 2) → ∃ s₂ o, Steps p.tables e below (T50.setTop (mkF m 124 #[.val (.int p1), .val (.int p2), .val (.int p3), .val (.int p4), .val (.int p5), .val (.int p6), .val (.ref r1), .val (.ref r2), .val (.int (2 : Int32)), .val (.ref b44), .val (.ref b48), .val (.int nm), .unset, .unset, .unset, .unset, .unset, .unset, .unset, .unset] [])) s₂ ∧ P s₂ o by
        by_cases mz_ : nm = (0 : Int32)
        · refine own_go (B := T49.setTop (mkF m 90 #[.val (.int p1), .val (.int p2), .val (.int p3), .val (.int p4), .val (.int p5), .val (.int p6), .val (.ref r1), .val (.ref r2), .val (.int (2 : Int32)), .val (.ref b44), .val (.ref b48), .val (.int nm), .unset, .unset, .unset, .unset, .unset, .unset, .unset, .unset] [(.int nm)])) (fun t k => ?_) ?_
          · show Steps p.tables e below (T49.setTop (mkF m 88 #[.val (.int p1), .val (.int p2), .val (.int p3), .val (.int p4), .val (.int p5), .val (.int p6), .val (.ref r1), .val (.ref r2), .val (.int (2 : Int32)), .val (.ref b44), .val (.ref b48), .val (.int nm), .unset, .unset, .unset, .unset, .unset, .unset, .unset, .unset] [])) _
            refine XS.iload X49.here hx rfl (hb hby at_88) rfl ?_
            show Steps p.tables e below (T49.setTop (mkF m 90 #[.val (.int p1), .val (.int p2), .val (.int p3), .val (.int p4), .val (.int p5), .val (.int p6), .val (.ref r1), .val (.ref r2), .val (.int (2 : Int32)), .val (.ref b44), .val (.ref b48), .val (.int nm), .unset, .unset, .unset, .unset, .unset, .unset, .unset, .unset] [(.int nm)])) _
            exact k
          subst mz_
          refine own_go (B := T49.setTop (mkF m 124 #[.val (.int p1), .val (.int p2), .val (.int p3), .val (.int p4), .val (.int p5), .val (.int p6), .val (.ref r1), .val (.ref r2), .val (.int (2 : Int32)), .val (.ref b44), .val (.ref b48), .val (.int (0 : Int32)), .unset, .unset, .unset, .unset, .unset, .unset, .unset, .unset] [])) (fun t k => ?_) ?_
          · show Steps p.tables e below (T49.setTop (mkF m 90 #[.val (.int p1), .val (.int p2), .val (.int p3), .val (.int p4), .val (.int p5), .val (.int p6), .val (.ref r1), .val (.ref r2), .val (.int (2 : Int32)), .val (.ref b44), .val (.ref b48), .val (.int (0 : Int32)), .unset, .unset, .unset, .unset, .unset, .unset, .unset, .unset] [(.int (0 : Int32))])) _
            refine XS.iconst X49.here hx rfl (hb hby at_90) ?_
            show Steps p.tables e below (T49.setTop (mkF m 91 #[.val (.int p1), .val (.int p2), .val (.int p3), .val (.int p4), .val (.int p5), .val (.int p6), .val (.ref r1), .val (.ref r2), .val (.int (2 : Int32)), .val (.ref b44), .val (.ref b48), .val (.int (0 : Int32)), .unset, .unset, .unset, .unset, .unset, .unset, .unset, .unset] [(.int (1 : Int32)), (.int (0 : Int32))])) _
            refine XS.icmpYes X49.here hx rfl (pc0 := 91) (pc' := 100) rfl (hb hby at_91) rfl (tlt (by decide)).1 (by decide) (by decide) ?_
            show Steps p.tables e below (T49.setTop (mkF m 100 #[.val (.int p1), .val (.int p2), .val (.int p3), .val (.int p4), .val (.int p5), .val (.int p6), .val (.ref r1), .val (.ref r2), .val (.int (2 : Int32)), .val (.ref b44), .val (.ref b48), .val (.int (0 : Int32)), .unset, .unset, .unset, .unset, .unset, .unset, .unset, .unset] [])) _
            refine XS.iload X49.here hx rfl (hb hby at_100) rfl ?_
            show Steps p.tables e below (T49.setTop (mkF m 102 #[.val (.int p1), .val (.int p2), .val (.int p3), .val (.int p4), .val (.int p5), .val (.int p6), .val (.ref r1), .val (.ref r2), .val (.int (2 : Int32)), .val (.ref b44), .val (.ref b48), .val (.int (0 : Int32)), .unset, .unset, .unset, .unset, .unset, .unset, .unset, .unset] [(.int (0 : Int32))])) _
            refine XS.iconst X49.here hx rfl (hb hby at_102) ?_
            show Steps p.tables e below (T49.setTop (mkF m 103 #[.val (.int p1), .val (.int p2), .val (.int p3), .val (.int p4), .val (.int p5), .val (.int p6), .val (.ref r1), .val (.ref r2), .val (.int (2 : Int32)), .val (.ref b44), .val (.ref b48), .val (.int (0 : Int32)), .unset, .unset, .unset, .unset, .unset, .unset, .unset, .unset] [(.int (2 : Int32)), (.int (0 : Int32))])) _
            refine XS.icmpYes X49.here hx rfl (pc0 := 103) (pc' := 112) rfl (hb hby at_103) rfl (tlt (by decide)).1 (by decide) (by decide) ?_
            show Steps p.tables e below (T49.setTop (mkF m 112 #[.val (.int p1), .val (.int p2), .val (.int p3), .val (.int p4), .val (.int p5), .val (.int p6), .val (.ref r1), .val (.ref r2), .val (.int (2 : Int32)), .val (.ref b44), .val (.ref b48), .val (.int (0 : Int32)), .unset, .unset, .unset, .unset, .unset, .unset, .unset, .unset] [])) _
            refine XS.iload X49.here hx rfl (hb hby at_112) rfl ?_
            show Steps p.tables e below (T49.setTop (mkF m 114 #[.val (.int p1), .val (.int p2), .val (.int p3), .val (.int p4), .val (.int p5), .val (.int p6), .val (.ref r1), .val (.ref r2), .val (.int (2 : Int32)), .val (.ref b44), .val (.ref b48), .val (.int (0 : Int32)), .unset, .unset, .unset, .unset, .unset, .unset, .unset, .unset] [(.int (0 : Int32))])) _
            refine XS.iconst X49.here hx rfl (hb hby at_114) ?_
            show Steps p.tables e below (T49.setTop (mkF m 115 #[.val (.int p1), .val (.int p2), .val (.int p3), .val (.int p4), .val (.int p5), .val (.int p6), .val (.ref r1), .val (.ref r2), .val (.int (2 : Int32)), .val (.ref b44), .val (.ref b48), .val (.int (0 : Int32)), .unset, .unset, .unset, .unset, .unset, .unset, .unset, .unset] [(.int (3 : Int32)), (.int (0 : Int32))])) _
            refine XS.icmpYes X49.here hx rfl (pc0 := 115) (pc' := 124) rfl (hb hby at_115) rfl (tlt (by decide)).1 (by decide) (by decide) ?_
            show Steps p.tables e below (T49.setTop (mkF m 124 #[.val (.int p1), .val (.int p2), .val (.int p3), .val (.int p4), .val (.int p5), .val (.int p6), .val (.ref r1), .val (.ref r2), .val (.int (2 : Int32)), .val (.ref b44), .val (.ref b48), .val (.int (0 : Int32)), .unset, .unset, .unset, .unset, .unset, .unset, .unset, .unset] [])) _
            exact k
          exact hseg50 T49 _ _ T49.heap _ (0 : Int32) (X49.more (by decide) (by decide)) rfl N hS hk hZ hown O Gq1_0 Gq2_0 A44 Gq47_0 Gq47_1 Gq47_2 Gq47_3 A48 Gq49_0 Gq49_1 Gq49_2 Gq49_3 (by decide) (by decide)
        · by_cases mo_ : nm = (1 : Int32)
          · refine own_go (B := T49.setTop (mkF m 90 #[.val (.int p1), .val (.int p2), .val (.int p3), .val (.int p4), .val (.int p5), .val (.int p6), .val (.ref r1), .val (.ref r2), .val (.int (2 : Int32)), .val (.ref b44), .val (.ref b48), .val (.int nm), .unset, .unset, .unset, .unset, .unset, .unset, .unset, .unset] [(.int nm)])) (fun t k => ?_) ?_
            · show Steps p.tables e below (T49.setTop (mkF m 88 #[.val (.int p1), .val (.int p2), .val (.int p3), .val (.int p4), .val (.int p5), .val (.int p6), .val (.ref r1), .val (.ref r2), .val (.int (2 : Int32)), .val (.ref b44), .val (.ref b48), .val (.int nm), .unset, .unset, .unset, .unset, .unset, .unset, .unset, .unset] [])) _
              refine XS.iload X49.here hx rfl (hb hby at_88) rfl ?_
              show Steps p.tables e below (T49.setTop (mkF m 90 #[.val (.int p1), .val (.int p2), .val (.int p3), .val (.int p4), .val (.int p5), .val (.int p6), .val (.ref r1), .val (.ref r2), .val (.int (2 : Int32)), .val (.ref b44), .val (.ref b48), .val (.int nm), .unset, .unset, .unset, .unset, .unset, .unset, .unset, .unset] [(.int nm)])) _
              exact k
            subst mo_
            refine own_go (B := T49.setTop (mkF m 96 #[.val (.int p1), .val (.int p2), .val (.int p3), .val (.int p4), .val (.int p5), .val (.int p6), .val (.ref r1), .val (.ref r2), .val (.int (2 : Int32)), .val (.ref b44), .val (.ref b48), .val (.int (1 : Int32)), .unset, .unset, .unset, .unset, .unset, .unset, .unset, .unset] [(.ref b48)])) (fun t k => ?_) ?_
            · show Steps p.tables e below (T49.setTop (mkF m 90 #[.val (.int p1), .val (.int p2), .val (.int p3), .val (.int p4), .val (.int p5), .val (.int p6), .val (.ref r1), .val (.ref r2), .val (.int (2 : Int32)), .val (.ref b44), .val (.ref b48), .val (.int (1 : Int32)), .unset, .unset, .unset, .unset, .unset, .unset, .unset, .unset] [(.int (1 : Int32))])) _
              refine XS.iconst X49.here hx rfl (hb hby at_90) ?_
              show Steps p.tables e below (T49.setTop (mkF m 91 #[.val (.int p1), .val (.int p2), .val (.int p3), .val (.int p4), .val (.int p5), .val (.int p6), .val (.ref r1), .val (.ref r2), .val (.int (2 : Int32)), .val (.ref b44), .val (.ref b48), .val (.int (1 : Int32)), .unset, .unset, .unset, .unset, .unset, .unset, .unset, .unset] [(.int (1 : Int32)), (.int (1 : Int32))])) _
              refine XS.icmpNo X49.here hx rfl (hb hby at_91) rfl (flt (by decide)).1 ?_
              show Steps p.tables e below (T49.setTop (mkF m 94 #[.val (.int p1), .val (.int p2), .val (.int p3), .val (.int p4), .val (.int p5), .val (.int p6), .val (.ref r1), .val (.ref r2), .val (.int (2 : Int32)), .val (.ref b44), .val (.ref b48), .val (.int (1 : Int32)), .unset, .unset, .unset, .unset, .unset, .unset, .unset, .unset] [])) _
              refine XS.aload X49.here hx rfl (hb hby at_94) rfl rfl ?_
              show Steps p.tables e below (T49.setTop (mkF m 96 #[.val (.int p1), .val (.int p2), .val (.int p3), .val (.int p4), .val (.int p5), .val (.int p6), .val (.ref r1), .val (.ref r2), .val (.int (2 : Int32)), .val (.ref b44), .val (.ref b48), .val (.int (1 : Int32)), .unset, .unset, .unset, .unset, .unset, .unset, .unset, .unset] [(.ref b48)])) _
              exact k
            -- pc 96: com/example/nasute/nasute/sql/TokenCursor.next
            obtain ⟨cq51, kq51, q51a, q51b, q51c⟩ := isOf hZ rfl A48
            obtain ⟨_, _, ⟨T51, L51, k51, n51⟩, -, X51, ⟨Lc51, hQ51, l51, y51, z51⟩, st51⟩ := X49.virtualBackUp hx (x := (⟨"com/example/nasute/nasute/sql/TokenCursorIsTextEndPinLaw", "next", "()Lcom/example/nasute/nasute/sql/Token;"⟩ : MethodName)) (y := (⟨"com/example/nasute/nasute/sql/TokenCursor", "next", "()Lcom/example/nasute/nasute/sql/Token;"⟩ : MethodName)) hown (mvT hZ (hw _ (own_g (i := 169) rfl))) (mvT hZ (hw _ (own_g (i := 170) rfl))) (mvT hZ (hw _ (own_g (i := 171) rfl))) (by decide) (mvT hZ (hw _ (own_g (i := 173) rfl))) (mvT hZ (hw _ (own_g (i := 172) rfl))) (backOf (W := 0) (rmNx20 l Z a0 hw [] b48 b44 en49 da46 kda46 r1 r2 T49.heap n0 O A48 Gq49_1 Gq49_2 Gq49_3 A44 Gq47_2 Gq47_1 Gq47_3 Gq1_0 Gq2_0 (Nat.ne_of_lt lt_r1_en49) (Nat.ne_of_lt lt_r2_en49) g_b48 (Nat.ne_of_lt lt_b44_b48) (Nat.ne_of_lt lt_da46_b48)) hZ (hw _ (own_g (i := 174) rfl)) (hw _ (own_g (i := 90) rfl)) (by decide) (by decide)) q51a q51c (g := (mkF m 96 #[.val (.int p1), .val (.int p2), .val (.int p3), .val (.int p4), .val (.int p5), .val (.int p6), .val (.ref r1), .val (.ref r2), .val (.int (2 : Int32)), .val (.ref b44), .val (.ref b48), .val (.int (1 : Int32)), .unset, .unset, .unset, .unset, .unset, .unset, .unset, .unset] [(.ref b48)])) rfl (by rw [hml]; rfl) (Steps.refl _) (argsL := []) (rest := []) (lenOf pd_16 rfl) rfl (by show 2 * 0 + _ ≤ _; exact Nat.le_of_eq rfl) (hb hby at_96) (fun _ hWm => ⟨rfl, rfl, (by decide : 12 + 0 ≤ _), (by decide : 42 + 0 ≤ _)⟩)
            dsimp only [Pt.U, Pt.locs, Pt.cells, Pt.slots] at X51 l51 y51 z51 st51 hQ51
            subst l51 y51 z51
            obtain ⟨r51, rfl, Nq51, Kq51, Gq51_0, Gq51_1, Gq51_2⟩ := hQ51
            replace N := Fr.app N Nq51
            replace Gq1_0 := Gq1_0.keep Kq51
            replace Gq2_0 := Gq2_0.keep Kq51
            replace A44 := A44.keep Kq51
            replace Gq47_0 := Gq47_0.keep Kq51 (ninS (Nat.ne_of_lt lt_b44_b48) nin0)
            replace Gq47_1 := Gq47_1.keep Kq51 (ninS (Nat.ne_of_lt lt_b44_b48) nin0)
            replace Gq47_2 := Gq47_2.keep Kq51 (ninS (Nat.ne_of_lt lt_b44_b48) nin0)
            replace Gq47_3 := Gq47_3.keep Kq51 (ninS (Nat.ne_of_lt lt_da46_b48) nin0)
            replace A48 := A48.keep Kq51
            replace Gq49_0 := Gq49_0.keep Kq51
            clear Gq49_1
            clear Gq49_2
            clear Gq49_3
            replace O := O.keep Kq51 (allS g_b48 all0)
            replace hk := Nat.le_trans hk Kq51.1
            refine own_go (B := T51.setTop (mkF m 99 #[.val (.int p1), .val (.int p2), .val (.int p3), .val (.int p4), .val (.int p5), .val (.int p6), .val (.ref r1), .val (.ref r2), .val (.int (2 : Int32)), .val (.ref b44), .val (.ref b48), .val (.int (1 : Int32)), .unset, .unset, .unset, .unset, .unset, .unset, .unset, .unset] [(.ref r51)])) (fun t k => st51.trans k) ?_
            refine own_go (B := T51.setTop (mkF m 124 #[.val (.int p1), .val (.int p2), .val (.int p3), .val (.int p4), .val (.int p5), .val (.int p6), .val (.ref r1), .val (.ref r2), .val (.int (2 : Int32)), .val (.ref b44), .val (.ref b48), .val (.int (1 : Int32)), .unset, .unset, .unset, .unset, .unset, .unset, .unset, .unset] [])) (fun t k => ?_) ?_
            · show Steps p.tables e below (T51.setTop (mkF m 99 #[.val (.int p1), .val (.int p2), .val (.int p3), .val (.int p4), .val (.int p5), .val (.int p6), .val (.ref r1), .val (.ref r2), .val (.int (2 : Int32)), .val (.ref b44), .val (.ref b48), .val (.int (1 : Int32)), .unset, .unset, .unset, .unset, .unset, .unset, .unset, .unset] [(.ref r51)])) _
              refine XS.pop X51.here hx rfl (hb hby at_99) rfl rfl ?_
              show Steps p.tables e below (T51.setTop (mkF m 100 #[.val (.int p1), .val (.int p2), .val (.int p3), .val (.int p4), .val (.int p5), .val (.int p6), .val (.ref r1), .val (.ref r2), .val (.int (2 : Int32)), .val (.ref b44), .val (.ref b48), .val (.int (1 : Int32)), .unset, .unset, .unset, .unset, .unset, .unset, .unset, .unset] [])) _
              refine XS.iload X51.here hx rfl (hb hby at_100) rfl ?_
              show Steps p.tables e below (T51.setTop (mkF m 102 #[.val (.int p1), .val (.int p2), .val (.int p3), .val (.int p4), .val (.int p5), .val (.int p6), .val (.ref r1), .val (.ref r2), .val (.int (2 : Int32)), .val (.ref b44), .val (.ref b48), .val (.int (1 : Int32)), .unset, .unset, .unset, .unset, .unset, .unset, .unset, .unset] [(.int (1 : Int32))])) _
              refine XS.iconst X51.here hx rfl (hb hby at_102) ?_
              show Steps p.tables e below (T51.setTop (mkF m 103 #[.val (.int p1), .val (.int p2), .val (.int p3), .val (.int p4), .val (.int p5), .val (.int p6), .val (.ref r1), .val (.ref r2), .val (.int (2 : Int32)), .val (.ref b44), .val (.ref b48), .val (.int (1 : Int32)), .unset, .unset, .unset, .unset, .unset, .unset, .unset, .unset] [(.int (2 : Int32)), (.int (1 : Int32))])) _
              refine XS.icmpYes X51.here hx rfl (pc0 := 103) (pc' := 112) rfl (hb hby at_103) rfl (tlt (by decide)).1 (by decide) (by decide) ?_
              show Steps p.tables e below (T51.setTop (mkF m 112 #[.val (.int p1), .val (.int p2), .val (.int p3), .val (.int p4), .val (.int p5), .val (.int p6), .val (.ref r1), .val (.ref r2), .val (.int (2 : Int32)), .val (.ref b44), .val (.ref b48), .val (.int (1 : Int32)), .unset, .unset, .unset, .unset, .unset, .unset, .unset, .unset] [])) _
              refine XS.iload X51.here hx rfl (hb hby at_112) rfl ?_
              show Steps p.tables e below (T51.setTop (mkF m 114 #[.val (.int p1), .val (.int p2), .val (.int p3), .val (.int p4), .val (.int p5), .val (.int p6), .val (.ref r1), .val (.ref r2), .val (.int (2 : Int32)), .val (.ref b44), .val (.ref b48), .val (.int (1 : Int32)), .unset, .unset, .unset, .unset, .unset, .unset, .unset, .unset] [(.int (1 : Int32))])) _
              refine XS.iconst X51.here hx rfl (hb hby at_114) ?_
              show Steps p.tables e below (T51.setTop (mkF m 115 #[.val (.int p1), .val (.int p2), .val (.int p3), .val (.int p4), .val (.int p5), .val (.int p6), .val (.ref r1), .val (.ref r2), .val (.int (2 : Int32)), .val (.ref b44), .val (.ref b48), .val (.int (1 : Int32)), .unset, .unset, .unset, .unset, .unset, .unset, .unset, .unset] [(.int (3 : Int32)), (.int (1 : Int32))])) _
              refine XS.icmpYes X51.here hx rfl (pc0 := 115) (pc' := 124) rfl (hb hby at_115) rfl (tlt (by decide)).1 (by decide) (by decide) ?_
              show Steps p.tables e below (T51.setTop (mkF m 124 #[.val (.int p1), .val (.int p2), .val (.int p3), .val (.int p4), .val (.int p5), .val (.int p6), .val (.ref r1), .val (.ref r2), .val (.int (2 : Int32)), .val (.ref b44), .val (.ref b48), .val (.int (1 : Int32)), .unset, .unset, .unset, .unset, .unset, .unset, .unset, .unset] [])) _
              exact k
            exact hseg50 T51 _ _ T51.heap _ (1 : Int32) (X51.more (by decide) (by decide)) rfl N hS hk hZ hown O Gq1_0 Gq2_0 A44 Gq47_0 Gq47_1 Gq47_2 Gq47_3 A48 Gq49_0 Gq51_0 Gq51_1 Gq51_2 (by decide) (by decide)
          · by_cases mt_ : nm = (2 : Int32)
            · refine own_go (B := T49.setTop (mkF m 90 #[.val (.int p1), .val (.int p2), .val (.int p3), .val (.int p4), .val (.int p5), .val (.int p6), .val (.ref r1), .val (.ref r2), .val (.int (2 : Int32)), .val (.ref b44), .val (.ref b48), .val (.int nm), .unset, .unset, .unset, .unset, .unset, .unset, .unset, .unset] [(.int nm)])) (fun t k => ?_) ?_
              · show Steps p.tables e below (T49.setTop (mkF m 88 #[.val (.int p1), .val (.int p2), .val (.int p3), .val (.int p4), .val (.int p5), .val (.int p6), .val (.ref r1), .val (.ref r2), .val (.int (2 : Int32)), .val (.ref b44), .val (.ref b48), .val (.int nm), .unset, .unset, .unset, .unset, .unset, .unset, .unset, .unset] [])) _
                refine XS.iload X49.here hx rfl (hb hby at_88) rfl ?_
                show Steps p.tables e below (T49.setTop (mkF m 90 #[.val (.int p1), .val (.int p2), .val (.int p3), .val (.int p4), .val (.int p5), .val (.int p6), .val (.ref r1), .val (.ref r2), .val (.int (2 : Int32)), .val (.ref b44), .val (.ref b48), .val (.int nm), .unset, .unset, .unset, .unset, .unset, .unset, .unset, .unset] [(.int nm)])) _
                exact k
              subst mt_
              refine own_go (B := T49.setTop (mkF m 96 #[.val (.int p1), .val (.int p2), .val (.int p3), .val (.int p4), .val (.int p5), .val (.int p6), .val (.ref r1), .val (.ref r2), .val (.int (2 : Int32)), .val (.ref b44), .val (.ref b48), .val (.int (2 : Int32)), .unset, .unset, .unset, .unset, .unset, .unset, .unset, .unset] [(.ref b48)])) (fun t k => ?_) ?_
              · show Steps p.tables e below (T49.setTop (mkF m 90 #[.val (.int p1), .val (.int p2), .val (.int p3), .val (.int p4), .val (.int p5), .val (.int p6), .val (.ref r1), .val (.ref r2), .val (.int (2 : Int32)), .val (.ref b44), .val (.ref b48), .val (.int (2 : Int32)), .unset, .unset, .unset, .unset, .unset, .unset, .unset, .unset] [(.int (2 : Int32))])) _
                refine XS.iconst X49.here hx rfl (hb hby at_90) ?_
                show Steps p.tables e below (T49.setTop (mkF m 91 #[.val (.int p1), .val (.int p2), .val (.int p3), .val (.int p4), .val (.int p5), .val (.int p6), .val (.ref r1), .val (.ref r2), .val (.int (2 : Int32)), .val (.ref b44), .val (.ref b48), .val (.int (2 : Int32)), .unset, .unset, .unset, .unset, .unset, .unset, .unset, .unset] [(.int (1 : Int32)), (.int (2 : Int32))])) _
                refine XS.icmpNo X49.here hx rfl (hb hby at_91) rfl (flt (by decide)).1 ?_
                show Steps p.tables e below (T49.setTop (mkF m 94 #[.val (.int p1), .val (.int p2), .val (.int p3), .val (.int p4), .val (.int p5), .val (.int p6), .val (.ref r1), .val (.ref r2), .val (.int (2 : Int32)), .val (.ref b44), .val (.ref b48), .val (.int (2 : Int32)), .unset, .unset, .unset, .unset, .unset, .unset, .unset, .unset] [])) _
                refine XS.aload X49.here hx rfl (hb hby at_94) rfl rfl ?_
                show Steps p.tables e below (T49.setTop (mkF m 96 #[.val (.int p1), .val (.int p2), .val (.int p3), .val (.int p4), .val (.int p5), .val (.int p6), .val (.ref r1), .val (.ref r2), .val (.int (2 : Int32)), .val (.ref b44), .val (.ref b48), .val (.int (2 : Int32)), .unset, .unset, .unset, .unset, .unset, .unset, .unset, .unset] [(.ref b48)])) _
                exact k
              -- pc 96: com/example/nasute/nasute/sql/TokenCursor.next
              obtain ⟨cq52, kq52, q52a, q52b, q52c⟩ := isOf hZ rfl A48
              obtain ⟨_, _, ⟨T52, L52, k52, n52⟩, -, X52, ⟨Lc52, hQ52, l52, y52, z52⟩, st52⟩ := X49.virtualBackUp hx (x := (⟨"com/example/nasute/nasute/sql/TokenCursorIsTextEndPinLaw", "next", "()Lcom/example/nasute/nasute/sql/Token;"⟩ : MethodName)) (y := (⟨"com/example/nasute/nasute/sql/TokenCursor", "next", "()Lcom/example/nasute/nasute/sql/Token;"⟩ : MethodName)) hown (mvT hZ (hw _ (own_g (i := 169) rfl))) (mvT hZ (hw _ (own_g (i := 170) rfl))) (mvT hZ (hw _ (own_g (i := 171) rfl))) (by decide) (mvT hZ (hw _ (own_g (i := 173) rfl))) (mvT hZ (hw _ (own_g (i := 172) rfl))) (backOf (W := 0) (rmNx20 l Z a0 hw [] b48 b44 en49 da46 kda46 r1 r2 T49.heap n0 O A48 Gq49_1 Gq49_2 Gq49_3 A44 Gq47_2 Gq47_1 Gq47_3 Gq1_0 Gq2_0 (Nat.ne_of_lt lt_r1_en49) (Nat.ne_of_lt lt_r2_en49) g_b48 (Nat.ne_of_lt lt_b44_b48) (Nat.ne_of_lt lt_da46_b48)) hZ (hw _ (own_g (i := 174) rfl)) (hw _ (own_g (i := 90) rfl)) (by decide) (by decide)) q52a q52c (g := (mkF m 96 #[.val (.int p1), .val (.int p2), .val (.int p3), .val (.int p4), .val (.int p5), .val (.int p6), .val (.ref r1), .val (.ref r2), .val (.int (2 : Int32)), .val (.ref b44), .val (.ref b48), .val (.int (2 : Int32)), .unset, .unset, .unset, .unset, .unset, .unset, .unset, .unset] [(.ref b48)])) rfl (by rw [hml]; rfl) (Steps.refl _) (argsL := []) (rest := []) (lenOf pd_16 rfl) rfl (by show 2 * 0 + _ ≤ _; exact Nat.le_of_eq rfl) (hb hby at_96) (fun _ hWm => ⟨rfl, rfl, (by decide : 12 + 0 ≤ _), (by decide : 42 + 0 ≤ _)⟩)
              dsimp only [Pt.U, Pt.locs, Pt.cells, Pt.slots] at X52 l52 y52 z52 st52 hQ52
              subst l52 y52 z52
              obtain ⟨r52, rfl, Nq52, Kq52, Gq52_0, Gq52_1, Gq52_2⟩ := hQ52
              replace N := Fr.app N Nq52
              replace Gq1_0 := Gq1_0.keep Kq52
              replace Gq2_0 := Gq2_0.keep Kq52
              replace A44 := A44.keep Kq52
              replace Gq47_0 := Gq47_0.keep Kq52 (ninS (Nat.ne_of_lt lt_b44_b48) nin0)
              replace Gq47_1 := Gq47_1.keep Kq52 (ninS (Nat.ne_of_lt lt_b44_b48) nin0)
              replace Gq47_2 := Gq47_2.keep Kq52 (ninS (Nat.ne_of_lt lt_b44_b48) nin0)
              replace Gq47_3 := Gq47_3.keep Kq52 (ninS (Nat.ne_of_lt lt_da46_b48) nin0)
              replace A48 := A48.keep Kq52
              replace Gq49_0 := Gq49_0.keep Kq52
              clear Gq49_1
              clear Gq49_2
              clear Gq49_3
              replace O := O.keep Kq52 (allS g_b48 all0)
              replace hk := Nat.le_trans hk Kq52.1
              refine own_go (B := T52.setTop (mkF m 99 #[.val (.int p1), .val (.int p2), .val (.int p3), .val (.int p4), .val (.int p5), .val (.int p6), .val (.ref r1), .val (.ref r2), .val (.int (2 : Int32)), .val (.ref b44), .val (.ref b48), .val (.int (2 : Int32)), .unset, .unset, .unset, .unset, .unset, .unset, .unset, .unset] [(.ref r52)])) (fun t k => st52.trans k) ?_
              refine own_go (B := T52.setTop (mkF m 108 #[.val (.int p1), .val (.int p2), .val (.int p3), .val (.int p4), .val (.int p5), .val (.int p6), .val (.ref r1), .val (.ref r2), .val (.int (2 : Int32)), .val (.ref b44), .val (.ref b48), .val (.int (2 : Int32)), .unset, .unset, .unset, .unset, .unset, .unset, .unset, .unset] [(.ref b48)])) (fun t k => ?_) ?_
              · show Steps p.tables e below (T52.setTop (mkF m 99 #[.val (.int p1), .val (.int p2), .val (.int p3), .val (.int p4), .val (.int p5), .val (.int p6), .val (.ref r1), .val (.ref r2), .val (.int (2 : Int32)), .val (.ref b44), .val (.ref b48), .val (.int (2 : Int32)), .unset, .unset, .unset, .unset, .unset, .unset, .unset, .unset] [(.ref r52)])) _
                refine XS.pop X52.here hx rfl (hb hby at_99) rfl rfl ?_
                show Steps p.tables e below (T52.setTop (mkF m 100 #[.val (.int p1), .val (.int p2), .val (.int p3), .val (.int p4), .val (.int p5), .val (.int p6), .val (.ref r1), .val (.ref r2), .val (.int (2 : Int32)), .val (.ref b44), .val (.ref b48), .val (.int (2 : Int32)), .unset, .unset, .unset, .unset, .unset, .unset, .unset, .unset] [])) _
                refine XS.iload X52.here hx rfl (hb hby at_100) rfl ?_
                show Steps p.tables e below (T52.setTop (mkF m 102 #[.val (.int p1), .val (.int p2), .val (.int p3), .val (.int p4), .val (.int p5), .val (.int p6), .val (.ref r1), .val (.ref r2), .val (.int (2 : Int32)), .val (.ref b44), .val (.ref b48), .val (.int (2 : Int32)), .unset, .unset, .unset, .unset, .unset, .unset, .unset, .unset] [(.int (2 : Int32))])) _
                refine XS.iconst X52.here hx rfl (hb hby at_102) ?_
                show Steps p.tables e below (T52.setTop (mkF m 103 #[.val (.int p1), .val (.int p2), .val (.int p3), .val (.int p4), .val (.int p5), .val (.int p6), .val (.ref r1), .val (.ref r2), .val (.int (2 : Int32)), .val (.ref b44), .val (.ref b48), .val (.int (2 : Int32)), .unset, .unset, .unset, .unset, .unset, .unset, .unset, .unset] [(.int (2 : Int32)), (.int (2 : Int32))])) _
                refine XS.icmpNo X52.here hx rfl (hb hby at_103) rfl (flt (by decide)).1 ?_
                show Steps p.tables e below (T52.setTop (mkF m 106 #[.val (.int p1), .val (.int p2), .val (.int p3), .val (.int p4), .val (.int p5), .val (.int p6), .val (.ref r1), .val (.ref r2), .val (.int (2 : Int32)), .val (.ref b44), .val (.ref b48), .val (.int (2 : Int32)), .unset, .unset, .unset, .unset, .unset, .unset, .unset, .unset] [])) _
                refine XS.aload X52.here hx rfl (hb hby at_106) rfl rfl ?_
                show Steps p.tables e below (T52.setTop (mkF m 108 #[.val (.int p1), .val (.int p2), .val (.int p3), .val (.int p4), .val (.int p5), .val (.int p6), .val (.ref r1), .val (.ref r2), .val (.int (2 : Int32)), .val (.ref b44), .val (.ref b48), .val (.int (2 : Int32)), .unset, .unset, .unset, .unset, .unset, .unset, .unset, .unset] [(.ref b48)])) _
                exact k
              -- pc 108: com/example/nasute/nasute/sql/TokenCursor.next
              obtain ⟨cq53, kq53, q53a, q53b, q53c⟩ := isOf hZ rfl A48
              obtain ⟨_, _, ⟨T53, L53, k53, n53⟩, -, X53, ⟨Lc53, hQ53, l53, y53, z53⟩, st53⟩ := X52.virtualBackUp hx (x := (⟨"com/example/nasute/nasute/sql/TokenCursorIsTextEndPinLaw", "next", "()Lcom/example/nasute/nasute/sql/Token;"⟩ : MethodName)) (y := (⟨"com/example/nasute/nasute/sql/TokenCursor", "next", "()Lcom/example/nasute/nasute/sql/Token;"⟩ : MethodName)) hown (mvT hZ (hw _ (own_g (i := 169) rfl))) (mvT hZ (hw _ (own_g (i := 170) rfl))) (mvT hZ (hw _ (own_g (i := 171) rfl))) (by decide) (mvT hZ (hw _ (own_g (i := 173) rfl))) (mvT hZ (hw _ (own_g (i := 172) rfl))) (backOf (W := 0) (rmNx21 l Z a0 hw [] b48 b44 en49 da46 kda46 r1 r2 T52.heap n0 O A48 Gq52_0 Gq52_1 Gq52_2 A44 Gq47_2 Gq47_1 Gq47_3 Gq1_0 Gq2_0 (Nat.ne_of_lt lt_r1_en49) (Nat.ne_of_lt lt_r2_en49) g_b48 (Nat.ne_of_lt lt_b44_b48) (Nat.ne_of_lt lt_da46_b48)) hZ (hw _ (own_g (i := 174) rfl)) (hw _ (own_g (i := 90) rfl)) (by decide) (by decide)) q53a q53c (g := (mkF m 108 #[.val (.int p1), .val (.int p2), .val (.int p3), .val (.int p4), .val (.int p5), .val (.int p6), .val (.ref r1), .val (.ref r2), .val (.int (2 : Int32)), .val (.ref b44), .val (.ref b48), .val (.int (2 : Int32)), .unset, .unset, .unset, .unset, .unset, .unset, .unset, .unset] [(.ref b48)])) rfl (by rw [hml]; rfl) (Steps.refl _) (argsL := []) (rest := []) (lenOf pd_16 rfl) rfl (by show 2 * 0 + _ ≤ _; exact Nat.le_of_eq rfl) (hb hby at_108) (fun _ hWm => ⟨rfl, rfl, (by decide : 12 + 0 ≤ _), (by decide : 42 + 0 ≤ _)⟩)
              dsimp only [Pt.U, Pt.locs, Pt.cells, Pt.slots] at X53 l53 y53 z53 st53 hQ53
              subst l53 y53 z53
              obtain ⟨r53, rfl, Nq53, Kq53, Gq53_0, Gq53_1, Gq53_2⟩ := hQ53
              replace N := Fr.app N Nq53
              replace Gq1_0 := Gq1_0.keep Kq53
              replace Gq2_0 := Gq2_0.keep Kq53
              replace A44 := A44.keep Kq53
              replace Gq47_0 := Gq47_0.keep Kq53 (ninS (Nat.ne_of_lt lt_b44_b48) nin0)
              replace Gq47_1 := Gq47_1.keep Kq53 (ninS (Nat.ne_of_lt lt_b44_b48) nin0)
              replace Gq47_2 := Gq47_2.keep Kq53 (ninS (Nat.ne_of_lt lt_b44_b48) nin0)
              replace Gq47_3 := Gq47_3.keep Kq53 (ninS (Nat.ne_of_lt lt_da46_b48) nin0)
              replace A48 := A48.keep Kq53
              replace Gq49_0 := Gq49_0.keep Kq53
              clear Gq52_0
              clear Gq52_1
              clear Gq52_2
              replace O := O.keep Kq53 (allS g_b48 all0)
              replace hk := Nat.le_trans hk Kq53.1
              refine own_go (B := T53.setTop (mkF m 111 #[.val (.int p1), .val (.int p2), .val (.int p3), .val (.int p4), .val (.int p5), .val (.int p6), .val (.ref r1), .val (.ref r2), .val (.int (2 : Int32)), .val (.ref b44), .val (.ref b48), .val (.int (2 : Int32)), .unset, .unset, .unset, .unset, .unset, .unset, .unset, .unset] [(.ref r53)])) (fun t k => st53.trans k) ?_
              refine own_go (B := T53.setTop (mkF m 124 #[.val (.int p1), .val (.int p2), .val (.int p3), .val (.int p4), .val (.int p5), .val (.int p6), .val (.ref r1), .val (.ref r2), .val (.int (2 : Int32)), .val (.ref b44), .val (.ref b48), .val (.int (2 : Int32)), .unset, .unset, .unset, .unset, .unset, .unset, .unset, .unset] [])) (fun t k => ?_) ?_
              · show Steps p.tables e below (T53.setTop (mkF m 111 #[.val (.int p1), .val (.int p2), .val (.int p3), .val (.int p4), .val (.int p5), .val (.int p6), .val (.ref r1), .val (.ref r2), .val (.int (2 : Int32)), .val (.ref b44), .val (.ref b48), .val (.int (2 : Int32)), .unset, .unset, .unset, .unset, .unset, .unset, .unset, .unset] [(.ref r53)])) _
                refine XS.pop X53.here hx rfl (hb hby at_111) rfl rfl ?_
                show Steps p.tables e below (T53.setTop (mkF m 112 #[.val (.int p1), .val (.int p2), .val (.int p3), .val (.int p4), .val (.int p5), .val (.int p6), .val (.ref r1), .val (.ref r2), .val (.int (2 : Int32)), .val (.ref b44), .val (.ref b48), .val (.int (2 : Int32)), .unset, .unset, .unset, .unset, .unset, .unset, .unset, .unset] [])) _
                refine XS.iload X53.here hx rfl (hb hby at_112) rfl ?_
                show Steps p.tables e below (T53.setTop (mkF m 114 #[.val (.int p1), .val (.int p2), .val (.int p3), .val (.int p4), .val (.int p5), .val (.int p6), .val (.ref r1), .val (.ref r2), .val (.int (2 : Int32)), .val (.ref b44), .val (.ref b48), .val (.int (2 : Int32)), .unset, .unset, .unset, .unset, .unset, .unset, .unset, .unset] [(.int (2 : Int32))])) _
                refine XS.iconst X53.here hx rfl (hb hby at_114) ?_
                show Steps p.tables e below (T53.setTop (mkF m 115 #[.val (.int p1), .val (.int p2), .val (.int p3), .val (.int p4), .val (.int p5), .val (.int p6), .val (.ref r1), .val (.ref r2), .val (.int (2 : Int32)), .val (.ref b44), .val (.ref b48), .val (.int (2 : Int32)), .unset, .unset, .unset, .unset, .unset, .unset, .unset, .unset] [(.int (3 : Int32)), (.int (2 : Int32))])) _
                refine XS.icmpYes X53.here hx rfl (pc0 := 115) (pc' := 124) rfl (hb hby at_115) rfl (tlt (by decide)).1 (by decide) (by decide) ?_
                show Steps p.tables e below (T53.setTop (mkF m 124 #[.val (.int p1), .val (.int p2), .val (.int p3), .val (.int p4), .val (.int p5), .val (.int p6), .val (.ref r1), .val (.ref r2), .val (.int (2 : Int32)), .val (.ref b44), .val (.ref b48), .val (.int (2 : Int32)), .unset, .unset, .unset, .unset, .unset, .unset, .unset, .unset] [])) _
                exact k
              exact hseg50 T53 _ _ T53.heap _ (2 : Int32) (X53.more (by decide) (by decide)) rfl N hS hk hZ hown O Gq1_0 Gq2_0 A44 Gq47_0 Gq47_1 Gq47_2 Gq47_3 A48 Gq49_0 Gq53_0 Gq53_1 Gq53_2 (by decide) (by decide)
            · refine own_go (B := T49.setTop (mkF m 90 #[.val (.int p1), .val (.int p2), .val (.int p3), .val (.int p4), .val (.int p5), .val (.int p6), .val (.ref r1), .val (.ref r2), .val (.int (2 : Int32)), .val (.ref b44), .val (.ref b48), .val (.int nm), .unset, .unset, .unset, .unset, .unset, .unset, .unset, .unset] [(.int nm)])) (fun t k => ?_) ?_
              · show Steps p.tables e below (T49.setTop (mkF m 88 #[.val (.int p1), .val (.int p2), .val (.int p3), .val (.int p4), .val (.int p5), .val (.int p6), .val (.ref r1), .val (.ref r2), .val (.int (2 : Int32)), .val (.ref b44), .val (.ref b48), .val (.int nm), .unset, .unset, .unset, .unset, .unset, .unset, .unset, .unset] [])) _
                refine XS.iload X49.here hx rfl (hb hby at_88) rfl ?_
                show Steps p.tables e below (T49.setTop (mkF m 90 #[.val (.int p1), .val (.int p2), .val (.int p3), .val (.int p4), .val (.int p5), .val (.int p6), .val (.ref r1), .val (.ref r2), .val (.int (2 : Int32)), .val (.ref b44), .val (.ref b48), .val (.int nm), .unset, .unset, .unset, .unset, .unset, .unset, .unset, .unset] [(.int nm)])) _
                exact k
              have mh_ : nm = (3 : Int32) := ((bnm.resolve_left mz_).resolve_left mo_).resolve_left mt_
              subst mh_
              refine own_go (B := T49.setTop (mkF m 96 #[.val (.int p1), .val (.int p2), .val (.int p3), .val (.int p4), .val (.int p5), .val (.int p6), .val (.ref r1), .val (.ref r2), .val (.int (2 : Int32)), .val (.ref b44), .val (.ref b48), .val (.int (3 : Int32)), .unset, .unset, .unset, .unset, .unset, .unset, .unset, .unset] [(.ref b48)])) (fun t k => ?_) ?_
              · show Steps p.tables e below (T49.setTop (mkF m 90 #[.val (.int p1), .val (.int p2), .val (.int p3), .val (.int p4), .val (.int p5), .val (.int p6), .val (.ref r1), .val (.ref r2), .val (.int (2 : Int32)), .val (.ref b44), .val (.ref b48), .val (.int (3 : Int32)), .unset, .unset, .unset, .unset, .unset, .unset, .unset, .unset] [(.int (3 : Int32))])) _
                refine XS.iconst X49.here hx rfl (hb hby at_90) ?_
                show Steps p.tables e below (T49.setTop (mkF m 91 #[.val (.int p1), .val (.int p2), .val (.int p3), .val (.int p4), .val (.int p5), .val (.int p6), .val (.ref r1), .val (.ref r2), .val (.int (2 : Int32)), .val (.ref b44), .val (.ref b48), .val (.int (3 : Int32)), .unset, .unset, .unset, .unset, .unset, .unset, .unset, .unset] [(.int (1 : Int32)), (.int (3 : Int32))])) _
                refine XS.icmpNo X49.here hx rfl (hb hby at_91) rfl (flt (by decide)).1 ?_
                show Steps p.tables e below (T49.setTop (mkF m 94 #[.val (.int p1), .val (.int p2), .val (.int p3), .val (.int p4), .val (.int p5), .val (.int p6), .val (.ref r1), .val (.ref r2), .val (.int (2 : Int32)), .val (.ref b44), .val (.ref b48), .val (.int (3 : Int32)), .unset, .unset, .unset, .unset, .unset, .unset, .unset, .unset] [])) _
                refine XS.aload X49.here hx rfl (hb hby at_94) rfl rfl ?_
                show Steps p.tables e below (T49.setTop (mkF m 96 #[.val (.int p1), .val (.int p2), .val (.int p3), .val (.int p4), .val (.int p5), .val (.int p6), .val (.ref r1), .val (.ref r2), .val (.int (2 : Int32)), .val (.ref b44), .val (.ref b48), .val (.int (3 : Int32)), .unset, .unset, .unset, .unset, .unset, .unset, .unset, .unset] [(.ref b48)])) _
                exact k
              -- pc 96: com/example/nasute/nasute/sql/TokenCursor.next
              obtain ⟨cq54, kq54, q54a, q54b, q54c⟩ := isOf hZ rfl A48
              obtain ⟨_, _, ⟨T54, L54, k54, n54⟩, -, X54, ⟨Lc54, hQ54, l54, y54, z54⟩, st54⟩ := X49.virtualBackUp hx (x := (⟨"com/example/nasute/nasute/sql/TokenCursorIsTextEndPinLaw", "next", "()Lcom/example/nasute/nasute/sql/Token;"⟩ : MethodName)) (y := (⟨"com/example/nasute/nasute/sql/TokenCursor", "next", "()Lcom/example/nasute/nasute/sql/Token;"⟩ : MethodName)) hown (mvT hZ (hw _ (own_g (i := 169) rfl))) (mvT hZ (hw _ (own_g (i := 170) rfl))) (mvT hZ (hw _ (own_g (i := 171) rfl))) (by decide) (mvT hZ (hw _ (own_g (i := 173) rfl))) (mvT hZ (hw _ (own_g (i := 172) rfl))) (backOf (W := 0) (rmNx20 l Z a0 hw [] b48 b44 en49 da46 kda46 r1 r2 T49.heap n0 O A48 Gq49_1 Gq49_2 Gq49_3 A44 Gq47_2 Gq47_1 Gq47_3 Gq1_0 Gq2_0 (Nat.ne_of_lt lt_r1_en49) (Nat.ne_of_lt lt_r2_en49) g_b48 (Nat.ne_of_lt lt_b44_b48) (Nat.ne_of_lt lt_da46_b48)) hZ (hw _ (own_g (i := 174) rfl)) (hw _ (own_g (i := 90) rfl)) (by decide) (by decide)) q54a q54c (g := (mkF m 96 #[.val (.int p1), .val (.int p2), .val (.int p3), .val (.int p4), .val (.int p5), .val (.int p6), .val (.ref r1), .val (.ref r2), .val (.int (2 : Int32)), .val (.ref b44), .val (.ref b48), .val (.int (3 : Int32)), .unset, .unset, .unset, .unset, .unset, .unset, .unset, .unset] [(.ref b48)])) rfl (by rw [hml]; rfl) (Steps.refl _) (argsL := []) (rest := []) (lenOf pd_16 rfl) rfl (by show 2 * 0 + _ ≤ _; exact Nat.le_of_eq rfl) (hb hby at_96) (fun _ hWm => ⟨rfl, rfl, (by decide : 12 + 0 ≤ _), (by decide : 42 + 0 ≤ _)⟩)
              dsimp only [Pt.U, Pt.locs, Pt.cells, Pt.slots] at X54 l54 y54 z54 st54 hQ54
              subst l54 y54 z54
              obtain ⟨r54, rfl, Nq54, Kq54, Gq54_0, Gq54_1, Gq54_2⟩ := hQ54
              replace N := Fr.app N Nq54
              replace Gq1_0 := Gq1_0.keep Kq54
              replace Gq2_0 := Gq2_0.keep Kq54
              replace A44 := A44.keep Kq54
              replace Gq47_0 := Gq47_0.keep Kq54 (ninS (Nat.ne_of_lt lt_b44_b48) nin0)
              replace Gq47_1 := Gq47_1.keep Kq54 (ninS (Nat.ne_of_lt lt_b44_b48) nin0)
              replace Gq47_2 := Gq47_2.keep Kq54 (ninS (Nat.ne_of_lt lt_b44_b48) nin0)
              replace Gq47_3 := Gq47_3.keep Kq54 (ninS (Nat.ne_of_lt lt_da46_b48) nin0)
              replace A48 := A48.keep Kq54
              replace Gq49_0 := Gq49_0.keep Kq54
              clear Gq49_1
              clear Gq49_2
              clear Gq49_3
              replace O := O.keep Kq54 (allS g_b48 all0)
              replace hk := Nat.le_trans hk Kq54.1
              refine own_go (B := T54.setTop (mkF m 99 #[.val (.int p1), .val (.int p2), .val (.int p3), .val (.int p4), .val (.int p5), .val (.int p6), .val (.ref r1), .val (.ref r2), .val (.int (2 : Int32)), .val (.ref b44), .val (.ref b48), .val (.int (3 : Int32)), .unset, .unset, .unset, .unset, .unset, .unset, .unset, .unset] [(.ref r54)])) (fun t k => st54.trans k) ?_
              refine own_go (B := T54.setTop (mkF m 108 #[.val (.int p1), .val (.int p2), .val (.int p3), .val (.int p4), .val (.int p5), .val (.int p6), .val (.ref r1), .val (.ref r2), .val (.int (2 : Int32)), .val (.ref b44), .val (.ref b48), .val (.int (3 : Int32)), .unset, .unset, .unset, .unset, .unset, .unset, .unset, .unset] [(.ref b48)])) (fun t k => ?_) ?_
              · show Steps p.tables e below (T54.setTop (mkF m 99 #[.val (.int p1), .val (.int p2), .val (.int p3), .val (.int p4), .val (.int p5), .val (.int p6), .val (.ref r1), .val (.ref r2), .val (.int (2 : Int32)), .val (.ref b44), .val (.ref b48), .val (.int (3 : Int32)), .unset, .unset, .unset, .unset, .unset, .unset, .unset, .unset] [(.ref r54)])) _
                refine XS.pop X54.here hx rfl (hb hby at_99) rfl rfl ?_
                show Steps p.tables e below (T54.setTop (mkF m 100 #[.val (.int p1), .val (.int p2), .val (.int p3), .val (.int p4), .val (.int p5), .val (.int p6), .val (.ref r1), .val (.ref r2), .val (.int (2 : Int32)), .val (.ref b44), .val (.ref b48), .val (.int (3 : Int32)), .unset, .unset, .unset, .unset, .unset, .unset, .unset, .unset] [])) _
                refine XS.iload X54.here hx rfl (hb hby at_100) rfl ?_
                show Steps p.tables e below (T54.setTop (mkF m 102 #[.val (.int p1), .val (.int p2), .val (.int p3), .val (.int p4), .val (.int p5), .val (.int p6), .val (.ref r1), .val (.ref r2), .val (.int (2 : Int32)), .val (.ref b44), .val (.ref b48), .val (.int (3 : Int32)), .unset, .unset, .unset, .unset, .unset, .unset, .unset, .unset] [(.int (3 : Int32))])) _
                refine XS.iconst X54.here hx rfl (hb hby at_102) ?_
                show Steps p.tables e below (T54.setTop (mkF m 103 #[.val (.int p1), .val (.int p2), .val (.int p3), .val (.int p4), .val (.int p5), .val (.int p6), .val (.ref r1), .val (.ref r2), .val (.int (2 : Int32)), .val (.ref b44), .val (.ref b48), .val (.int (3 : Int32)), .unset, .unset, .unset, .unset, .unset, .unset, .unset, .unset] [(.int (2 : Int32)), (.int (3 : Int32))])) _
                refine XS.icmpNo X54.here hx rfl (hb hby at_103) rfl (flt (by decide)).1 ?_
                show Steps p.tables e below (T54.setTop (mkF m 106 #[.val (.int p1), .val (.int p2), .val (.int p3), .val (.int p4), .val (.int p5), .val (.int p6), .val (.ref r1), .val (.ref r2), .val (.int (2 : Int32)), .val (.ref b44), .val (.ref b48), .val (.int (3 : Int32)), .unset, .unset, .unset, .unset, .unset, .unset, .unset, .unset] [])) _
                refine XS.aload X54.here hx rfl (hb hby at_106) rfl rfl ?_
                show Steps p.tables e below (T54.setTop (mkF m 108 #[.val (.int p1), .val (.int p2), .val (.int p3), .val (.int p4), .val (.int p5), .val (.int p6), .val (.ref r1), .val (.ref r2), .val (.int (2 : Int32)), .val (.ref b44), .val (.ref b48), .val (.int (3 : Int32)), .unset, .unset, .unset, .unset, .unset, .unset, .unset, .unset] [(.ref b48)])) _
                exact k
              -- pc 108: com/example/nasute/nasute/sql/TokenCursor.next
              obtain ⟨cq55, kq55, q55a, q55b, q55c⟩ := isOf hZ rfl A48
              obtain ⟨_, _, ⟨T55, L55, k55, n55⟩, -, X55, ⟨Lc55, hQ55, l55, y55, z55⟩, st55⟩ := X54.virtualBackUp hx (x := (⟨"com/example/nasute/nasute/sql/TokenCursorIsTextEndPinLaw", "next", "()Lcom/example/nasute/nasute/sql/Token;"⟩ : MethodName)) (y := (⟨"com/example/nasute/nasute/sql/TokenCursor", "next", "()Lcom/example/nasute/nasute/sql/Token;"⟩ : MethodName)) hown (mvT hZ (hw _ (own_g (i := 169) rfl))) (mvT hZ (hw _ (own_g (i := 170) rfl))) (mvT hZ (hw _ (own_g (i := 171) rfl))) (by decide) (mvT hZ (hw _ (own_g (i := 173) rfl))) (mvT hZ (hw _ (own_g (i := 172) rfl))) (backOf (W := 0) (rmNx21 l Z a0 hw [] b48 b44 en49 da46 kda46 r1 r2 T54.heap n0 O A48 Gq54_0 Gq54_1 Gq54_2 A44 Gq47_2 Gq47_1 Gq47_3 Gq1_0 Gq2_0 (Nat.ne_of_lt lt_r1_en49) (Nat.ne_of_lt lt_r2_en49) g_b48 (Nat.ne_of_lt lt_b44_b48) (Nat.ne_of_lt lt_da46_b48)) hZ (hw _ (own_g (i := 174) rfl)) (hw _ (own_g (i := 90) rfl)) (by decide) (by decide)) q55a q55c (g := (mkF m 108 #[.val (.int p1), .val (.int p2), .val (.int p3), .val (.int p4), .val (.int p5), .val (.int p6), .val (.ref r1), .val (.ref r2), .val (.int (2 : Int32)), .val (.ref b44), .val (.ref b48), .val (.int (3 : Int32)), .unset, .unset, .unset, .unset, .unset, .unset, .unset, .unset] [(.ref b48)])) rfl (by rw [hml]; rfl) (Steps.refl _) (argsL := []) (rest := []) (lenOf pd_16 rfl) rfl (by show 2 * 0 + _ ≤ _; exact Nat.le_of_eq rfl) (hb hby at_108) (fun _ hWm => ⟨rfl, rfl, (by decide : 12 + 0 ≤ _), (by decide : 42 + 0 ≤ _)⟩)
              dsimp only [Pt.U, Pt.locs, Pt.cells, Pt.slots] at X55 l55 y55 z55 st55 hQ55
              subst l55 y55 z55
              obtain ⟨r55, rfl, Nq55, Kq55, Gq55_0, Gq55_1, Gq55_2⟩ := hQ55
              replace N := Fr.app N Nq55
              replace Gq1_0 := Gq1_0.keep Kq55
              replace Gq2_0 := Gq2_0.keep Kq55
              replace A44 := A44.keep Kq55
              replace Gq47_0 := Gq47_0.keep Kq55 (ninS (Nat.ne_of_lt lt_b44_b48) nin0)
              replace Gq47_1 := Gq47_1.keep Kq55 (ninS (Nat.ne_of_lt lt_b44_b48) nin0)
              replace Gq47_2 := Gq47_2.keep Kq55 (ninS (Nat.ne_of_lt lt_b44_b48) nin0)
              replace Gq47_3 := Gq47_3.keep Kq55 (ninS (Nat.ne_of_lt lt_da46_b48) nin0)
              replace A48 := A48.keep Kq55
              replace Gq49_0 := Gq49_0.keep Kq55
              clear Gq54_0
              clear Gq54_1
              clear Gq54_2
              replace O := O.keep Kq55 (allS g_b48 all0)
              replace hk := Nat.le_trans hk Kq55.1
              refine own_go (B := T55.setTop (mkF m 111 #[.val (.int p1), .val (.int p2), .val (.int p3), .val (.int p4), .val (.int p5), .val (.int p6), .val (.ref r1), .val (.ref r2), .val (.int (2 : Int32)), .val (.ref b44), .val (.ref b48), .val (.int (3 : Int32)), .unset, .unset, .unset, .unset, .unset, .unset, .unset, .unset] [(.ref r55)])) (fun t k => st55.trans k) ?_
              refine own_go (B := T55.setTop (mkF m 120 #[.val (.int p1), .val (.int p2), .val (.int p3), .val (.int p4), .val (.int p5), .val (.int p6), .val (.ref r1), .val (.ref r2), .val (.int (2 : Int32)), .val (.ref b44), .val (.ref b48), .val (.int (3 : Int32)), .unset, .unset, .unset, .unset, .unset, .unset, .unset, .unset] [(.ref b48)])) (fun t k => ?_) ?_
              · show Steps p.tables e below (T55.setTop (mkF m 111 #[.val (.int p1), .val (.int p2), .val (.int p3), .val (.int p4), .val (.int p5), .val (.int p6), .val (.ref r1), .val (.ref r2), .val (.int (2 : Int32)), .val (.ref b44), .val (.ref b48), .val (.int (3 : Int32)), .unset, .unset, .unset, .unset, .unset, .unset, .unset, .unset] [(.ref r55)])) _
                refine XS.pop X55.here hx rfl (hb hby at_111) rfl rfl ?_
                show Steps p.tables e below (T55.setTop (mkF m 112 #[.val (.int p1), .val (.int p2), .val (.int p3), .val (.int p4), .val (.int p5), .val (.int p6), .val (.ref r1), .val (.ref r2), .val (.int (2 : Int32)), .val (.ref b44), .val (.ref b48), .val (.int (3 : Int32)), .unset, .unset, .unset, .unset, .unset, .unset, .unset, .unset] [])) _
                refine XS.iload X55.here hx rfl (hb hby at_112) rfl ?_
                show Steps p.tables e below (T55.setTop (mkF m 114 #[.val (.int p1), .val (.int p2), .val (.int p3), .val (.int p4), .val (.int p5), .val (.int p6), .val (.ref r1), .val (.ref r2), .val (.int (2 : Int32)), .val (.ref b44), .val (.ref b48), .val (.int (3 : Int32)), .unset, .unset, .unset, .unset, .unset, .unset, .unset, .unset] [(.int (3 : Int32))])) _
                refine XS.iconst X55.here hx rfl (hb hby at_114) ?_
                show Steps p.tables e below (T55.setTop (mkF m 115 #[.val (.int p1), .val (.int p2), .val (.int p3), .val (.int p4), .val (.int p5), .val (.int p6), .val (.ref r1), .val (.ref r2), .val (.int (2 : Int32)), .val (.ref b44), .val (.ref b48), .val (.int (3 : Int32)), .unset, .unset, .unset, .unset, .unset, .unset, .unset, .unset] [(.int (3 : Int32)), (.int (3 : Int32))])) _
                refine XS.icmpNo X55.here hx rfl (hb hby at_115) rfl (flt (by decide)).1 ?_
                show Steps p.tables e below (T55.setTop (mkF m 118 #[.val (.int p1), .val (.int p2), .val (.int p3), .val (.int p4), .val (.int p5), .val (.int p6), .val (.ref r1), .val (.ref r2), .val (.int (2 : Int32)), .val (.ref b44), .val (.ref b48), .val (.int (3 : Int32)), .unset, .unset, .unset, .unset, .unset, .unset, .unset, .unset] [])) _
                refine XS.aload X55.here hx rfl (hb hby at_118) rfl rfl ?_
                show Steps p.tables e below (T55.setTop (mkF m 120 #[.val (.int p1), .val (.int p2), .val (.int p3), .val (.int p4), .val (.int p5), .val (.int p6), .val (.ref r1), .val (.ref r2), .val (.int (2 : Int32)), .val (.ref b44), .val (.ref b48), .val (.int (3 : Int32)), .unset, .unset, .unset, .unset, .unset, .unset, .unset, .unset] [(.ref b48)])) _
                exact k
              -- pc 120: com/example/nasute/nasute/sql/TokenCursor.next
              obtain ⟨cq56, kq56, q56a, q56b, q56c⟩ := isOf hZ rfl A48
              obtain ⟨_, _, ⟨T56, L56, k56, n56⟩, -, X56, ⟨Lc56, hQ56, l56, y56, z56⟩, st56⟩ := X55.virtualBackUp hx (x := (⟨"com/example/nasute/nasute/sql/TokenCursorIsTextEndPinLaw", "next", "()Lcom/example/nasute/nasute/sql/Token;"⟩ : MethodName)) (y := (⟨"com/example/nasute/nasute/sql/TokenCursor", "next", "()Lcom/example/nasute/nasute/sql/Token;"⟩ : MethodName)) hown (mvT hZ (hw _ (own_g (i := 169) rfl))) (mvT hZ (hw _ (own_g (i := 170) rfl))) (mvT hZ (hw _ (own_g (i := 171) rfl))) (by decide) (mvT hZ (hw _ (own_g (i := 173) rfl))) (mvT hZ (hw _ (own_g (i := 172) rfl))) (backOf (W := 0) (rmNx22 l Z a0 hw [] b48 b44 en49 da46 kda46 r1 r2 T55.heap n0 O A48 Gq55_0 Gq55_1 Gq55_2 A44 Gq47_2 Gq47_1 Gq47_3 Gq1_0 Gq2_0 (Nat.ne_of_lt lt_r1_en49) (Nat.ne_of_lt lt_r2_en49) g_b48 (Nat.ne_of_lt lt_b44_b48) (Nat.ne_of_lt lt_da46_b48)) hZ (hw _ (own_g (i := 174) rfl)) (hw _ (own_g (i := 90) rfl)) (by decide) (by decide)) q56a q56c (g := (mkF m 120 #[.val (.int p1), .val (.int p2), .val (.int p3), .val (.int p4), .val (.int p5), .val (.int p6), .val (.ref r1), .val (.ref r2), .val (.int (2 : Int32)), .val (.ref b44), .val (.ref b48), .val (.int (3 : Int32)), .unset, .unset, .unset, .unset, .unset, .unset, .unset, .unset] [(.ref b48)])) rfl (by rw [hml]; rfl) (Steps.refl _) (argsL := []) (rest := []) (lenOf pd_16 rfl) rfl (by show 2 * 0 + _ ≤ _; exact Nat.le_of_eq rfl) (hb hby at_120) (fun _ hWm => ⟨rfl, rfl, (by decide : 12 + 0 ≤ _), (by decide : 42 + 0 ≤ _)⟩)
              dsimp only [Pt.U, Pt.locs, Pt.cells, Pt.slots] at X56 l56 y56 z56 st56 hQ56
              subst l56 y56 z56
              obtain ⟨r56, rfl, Nq56, Kq56⟩ := hQ56
              replace N := Fr.app N Nq56
              refine own_go (B := T56.setTop (mkF m 123 #[.val (.int p1), .val (.int p2), .val (.int p3), .val (.int p4), .val (.int p5), .val (.int p6), .val (.ref r1), .val (.ref r2), .val (.int (2 : Int32)), .val (.ref b44), .val (.ref b48), .val (.int (3 : Int32)), .unset, .unset, .unset, .unset, .unset, .unset, .unset, .unset] [(.ref r56)])) (fun t k => st56.trans k) ?_
              refine own_go (B := T56.setTop (mkF m 124 #[.val (.int p1), .val (.int p2), .val (.int p3), .val (.int p4), .val (.int p5), .val (.int p6), .val (.ref r1), .val (.ref r2), .val (.int (2 : Int32)), .val (.ref b44), .val (.ref b48), .val (.int (3 : Int32)), .unset, .unset, .unset, .unset, .unset, .unset, .unset, .unset] [])) (fun t k => ?_) ?_
              · show Steps p.tables e below (T56.setTop (mkF m 123 #[.val (.int p1), .val (.int p2), .val (.int p3), .val (.int p4), .val (.int p5), .val (.int p6), .val (.ref r1), .val (.ref r2), .val (.int (2 : Int32)), .val (.ref b44), .val (.ref b48), .val (.int (3 : Int32)), .unset, .unset, .unset, .unset, .unset, .unset, .unset, .unset] [(.ref r56)])) _
                refine XS.pop X56.here hx rfl (hb hby at_123) rfl rfl ?_
                show Steps p.tables e below (T56.setTop (mkF m 124 #[.val (.int p1), .val (.int p2), .val (.int p3), .val (.int p4), .val (.int p5), .val (.int p6), .val (.ref r1), .val (.ref r2), .val (.int (2 : Int32)), .val (.ref b44), .val (.ref b48), .val (.int (3 : Int32)), .unset, .unset, .unset, .unset, .unset, .unset, .unset, .unset] [])) _
                exact k
              exact hseg50 T56 _ _ T55.heap _ (2 : Int32) (X56.more (by decide) (by decide)) Kq56 N hS hk hZ hown O Gq1_0 Gq2_0 A44 Gq47_0 Gq47_1 Gq47_2 Gq47_3 A48 Gq49_0 Gq55_0 Gq55_1 Gq55_2 (by decide) (by decide)
      intro T50 vm50 kk50 h50 L50 av50 X50 e50 N hS hk hZ hown O Gq1_0 Gq2_0 A44 Gq47_0 Gq47_1 Gq47_2 Gq47_3 A48 Gq49_0 Gq49_1 Gq49_2 Sg50_0 sc50_0 sc50_1
      refine own_go (B := T50.setTop (mkF m 128 #[.val (.int p1), .val (.int p2), .val (.int p3), .val (.int p4), .val (.int p5), .val (.int p6), .val (.ref r1), .val (.ref r2), .val (.int (2 : Int32)), .val (.ref b44), .val (.ref b48), .val (.int nm), .unset, .unset, .unset, .unset, .unset, .unset, .unset, .unset] [(.int (2 : Int32)), (.int nm)])) (fun t k => ?_) ?_
      · show Steps p.tables e below (T50.setTop (mkF m 124 #[.val (.int p1), .val (.int p2), .val (.int p3), .val (.int p4), .val (.int p5), .val (.int p6), .val (.ref r1), .val (.ref r2), .val (.int (2 : Int32)), .val (.ref b44), .val (.ref b48), .val (.int nm), .unset, .unset, .unset, .unset, .unset, .unset, .unset, .unset] [])) _
        refine XS.iload X50.here hx rfl (hb hby at_124) rfl ?_
        show Steps p.tables e below (T50.setTop (mkF m 126 #[.val (.int p1), .val (.int p2), .val (.int p3), .val (.int p4), .val (.int p5), .val (.int p6), .val (.ref r1), .val (.ref r2), .val (.int (2 : Int32)), .val (.ref b44), .val (.ref b48), .val (.int nm), .unset, .unset, .unset, .unset, .unset, .unset, .unset, .unset] [(.int nm)])) _
        refine XS.iload X50.here hx rfl (hb hby at_126) rfl ?_
        show Steps p.tables e below (T50.setTop (mkF m 128 #[.val (.int p1), .val (.int p2), .val (.int p3), .val (.int p4), .val (.int p5), .val (.int p6), .val (.ref r1), .val (.ref r2), .val (.int (2 : Int32)), .val (.ref b44), .val (.ref b48), .val (.int nm), .unset, .unset, .unset, .unset, .unset, .unset, .unset, .unset] [(.int (2 : Int32)), (.int nm)])) _
        exact k
      -- pc 128: java/lang/Math.min
      obtain ⟨_, _, ⟨T57, L57, k57, n57⟩, -, X57, ⟨Lc57, hQ57, l57, y57, z57⟩, st57⟩ := Jvm.LawKit.callS X50 hx (y := (⟨"java/lang/Math", "min", "(II)I"⟩ : MethodName)) hown (mvT hZ (hw _ (own_g (i := 104) rfl))) (mvT hZ (hw _ (own_g (i := 105) rfl))) (mvT hZ (hw _ (own_g (i := 106) rfl))) (mvT hZ (hw _ (own_g (i := 107) rfl))) (by decide) (backOf (W := 0) (rmMin l Z a0 hw [] nm (2 : Int32) h50 n0 O ) hZ (hw _ (own_g (i := 107) rfl)) (hw _ (own_g (i := 106) rfl)) (by decide) (by decide)) (g := (mkF m 128 #[.val (.int p1), .val (.int p2), .val (.int p3), .val (.int p4), .val (.int p5), .val (.int p6), .val (.ref r1), .val (.ref r2), .val (.int (2 : Int32)), .val (.ref b44), .val (.ref b48), .val (.int nm), .unset, .unset, .unset, .unset, .unset, .unset, .unset, .unset] [(.int (2 : Int32)), (.int nm)])) rfl (by rw [hml]; rfl) (argsL := [(.int nm), (.int (2 : Int32))]) (rest := []) (lenOf pd_7 rfl) rfl (by show 2 * 0 + _ ≤ _; exact Nat.le_of_eq rfl) (hb hby at_128) (fun _ hWm => ⟨rfl, e50, (by decide : 12 + 0 ≤ _), (by decide : 42 + 0 ≤ _)⟩)
      dsimp only [Pt.U, Pt.locs, Pt.cells, Pt.slots] at X57 l57 y57 z57 st57 hQ57
      subst l57 y57 z57
      obtain ⟨b57, rfl, Nq57, Kq57, cq57_0⟩ := hQ57
      replace N := Fr.app N Nq57
      refine own_go (B := T57.setTop (mkF m 131 #[.val (.int p1), .val (.int p2), .val (.int p3), .val (.int p4), .val (.int p5), .val (.int p6), .val (.ref r1), .val (.ref r2), .val (.int (2 : Int32)), .val (.ref b44), .val (.ref b48), .val (.int nm), .unset, .unset, .unset, .unset, .unset, .unset, .unset, .unset] [(.int b57)])) st57 ?_
      have hmn : av50 = b57 := (cq57_0.trans sc50_0.symm).symm
      subst hmn
      refine own_go (B := T57.setTop (mkF m 133 #[.val (.int p1), .val (.int p2), .val (.int p3), .val (.int p4), .val (.int p5), .val (.int p6), .val (.ref r1), .val (.ref r2), .val (.int (2 : Int32)), .val (.ref b44), .val (.ref b48), .val (.int nm), .val (.int av50), .unset, .unset, .unset, .unset, .unset, .unset, .unset] [])) (fun t k => ?_) ?_
      · show Steps p.tables e below (T57.setTop (mkF m 131 #[.val (.int p1), .val (.int p2), .val (.int p3), .val (.int p4), .val (.int p5), .val (.int p6), .val (.ref r1), .val (.ref r2), .val (.int (2 : Int32)), .val (.ref b44), .val (.ref b48), .val (.int nm), .unset, .unset, .unset, .unset, .unset, .unset, .unset, .unset] [(.int av50)])) _
        refine XS.istore X57.here hx rfl (hb hby at_131) rfl (l' := #[.val (.int p1), .val (.int p2), .val (.int p3), .val (.int p4), .val (.int p5), .val (.int p6), .val (.ref r1), .val (.ref r2), .val (.int (2 : Int32)), .val (.ref b44), .val (.ref b48), .val (.int nm), .val (.int av50), .unset, .unset, .unset, .unset, .unset, .unset, .unset]) rfl ?_
        show Steps p.tables e below (T57.setTop (mkF m 133 #[.val (.int p1), .val (.int p2), .val (.int p3), .val (.int p4), .val (.int p5), .val (.int p6), .val (.ref r1), .val (.ref r2), .val (.int (2 : Int32)), .val (.ref b44), .val (.ref b48), .val (.int nm), .val (.int av50), .unset, .unset, .unset, .unset, .unset, .unset, .unset] [])) _
        exact k
      suffices hseg58 : ∀ (T58 : State) (vm58 : Vm) (kk58 : Nat) (L58 : List Loc) (xe58 : Int32), Stand p l e room_1 (s.setVm vm58) m #[(.int p1), (.int p2), (.int p3), (.int p4), (.int p5), (.int p6)] below meth c T58 L58 12 42 → T58.heap = h50 → Fr n0 L58 → s.Since vm58 kk58 → kk58 ≤ h50.size → Z.Warmed39 (s.setVm vm58).vm → (s.setVm vm58).vm.findClass "com/example/nasute/nasute/sql/TokenCursorIsTextEndPinLaw" = some m.cls → (own_in (av50 + p2) (2 : Int32) → xe58 = (0 : Int32)) → (¬ own_in (av50 + p2) (2 : Int32) → xe58 = (1 : Int32)) → ∃ s₂ o, Steps p.tables e below (T58.setTop (mkF m 164 #[.val (.int p1), .val (.int p2), .val (.int p3), .val (.int p4), .val (.int p5), .val (.int p6), .val (.ref r1), .val (.ref r2), .val (.int (2 : Int32)), .val (.ref b44), .val (.ref b48), .val (.int nm), .val (.int av50), .val (.long ((av50.toInt64) + (p2.toInt64))), .second, .val (.int xe58), .unset, .unset, .unset, .unset] [])) s₂ ∧ P s₂ o by
        by_cases gi : own_in (av50 + p2) (2 : Int32)
        · refine own_go (B := T57.setTop (mkF m 164 #[.val (.int p1), .val (.int p2), .val (.int p3), .val (.int p4), .val (.int p5), .val (.int p6), .val (.ref r1), .val (.ref r2), .val (.int (2 : Int32)), .val (.ref b44), .val (.ref b48), .val (.int nm), .val (.int av50), .val (.long ((av50.toInt64) + (p2.toInt64))), .second, .val (.int (0 : Int32)), .unset, .unset, .unset, .unset] [])) (fun t k => ?_) ?_
          · show Steps p.tables e below (T57.setTop (mkF m 133 #[.val (.int p1), .val (.int p2), .val (.int p3), .val (.int p4), .val (.int p5), .val (.int p6), .val (.ref r1), .val (.ref r2), .val (.int (2 : Int32)), .val (.ref b44), .val (.ref b48), .val (.int nm), .val (.int av50), .unset, .unset, .unset, .unset, .unset, .unset, .unset] [])) _
            refine XS.iload X57.here hx rfl (hb hby at_133) rfl ?_
            show Steps p.tables e below (T57.setTop (mkF m 135 #[.val (.int p1), .val (.int p2), .val (.int p3), .val (.int p4), .val (.int p5), .val (.int p6), .val (.ref r1), .val (.ref r2), .val (.int (2 : Int32)), .val (.ref b44), .val (.ref b48), .val (.int nm), .val (.int av50), .unset, .unset, .unset, .unset, .unset, .unset, .unset] [(.int av50)])) _
            refine XS.i2l X57.here hx rfl (hb hby at_135) rfl ?_
            show Steps p.tables e below (T57.setTop (mkF m 136 #[.val (.int p1), .val (.int p2), .val (.int p3), .val (.int p4), .val (.int p5), .val (.int p6), .val (.ref r1), .val (.ref r2), .val (.int (2 : Int32)), .val (.ref b44), .val (.ref b48), .val (.int nm), .val (.int av50), .unset, .unset, .unset, .unset, .unset, .unset, .unset] [(.long (av50.toInt64))])) _
            refine XS.iloadN X57.here hx rfl (hb hby at_136) rfl ?_
            show Steps p.tables e below (T57.setTop (mkF m 137 #[.val (.int p1), .val (.int p2), .val (.int p3), .val (.int p4), .val (.int p5), .val (.int p6), .val (.ref r1), .val (.ref r2), .val (.int (2 : Int32)), .val (.ref b44), .val (.ref b48), .val (.int nm), .val (.int av50), .unset, .unset, .unset, .unset, .unset, .unset, .unset] [(.int p2), (.long (av50.toInt64))])) _
            refine XS.i2l X57.here hx rfl (hb hby at_137) rfl ?_
            show Steps p.tables e below (T57.setTop (mkF m 138 #[.val (.int p1), .val (.int p2), .val (.int p3), .val (.int p4), .val (.int p5), .val (.int p6), .val (.ref r1), .val (.ref r2), .val (.int (2 : Int32)), .val (.ref b44), .val (.ref b48), .val (.int nm), .val (.int av50), .unset, .unset, .unset, .unset, .unset, .unset, .unset] [(.long (p2.toInt64)), (.long (av50.toInt64))])) _
            refine XS.ladd X57.here hx rfl (hb hby at_138) rfl ?_
            show Steps p.tables e below (T57.setTop (mkF m 139 #[.val (.int p1), .val (.int p2), .val (.int p3), .val (.int p4), .val (.int p5), .val (.int p6), .val (.ref r1), .val (.ref r2), .val (.int (2 : Int32)), .val (.ref b44), .val (.ref b48), .val (.int nm), .val (.int av50), .unset, .unset, .unset, .unset, .unset, .unset, .unset] [(.long ((av50.toInt64) + (p2.toInt64)))])) _
            refine XS.lstore X57.here hx rfl (hb hby at_139) rfl (l' := #[.val (.int p1), .val (.int p2), .val (.int p3), .val (.int p4), .val (.int p5), .val (.int p6), .val (.ref r1), .val (.ref r2), .val (.int (2 : Int32)), .val (.ref b44), .val (.ref b48), .val (.int nm), .val (.int av50), .val (.long ((av50.toInt64) + (p2.toInt64))), .second, .unset, .unset, .unset, .unset, .unset]) rfl ?_
            show Steps p.tables e below (T57.setTop (mkF m 141 #[.val (.int p1), .val (.int p2), .val (.int p3), .val (.int p4), .val (.int p5), .val (.int p6), .val (.ref r1), .val (.ref r2), .val (.int (2 : Int32)), .val (.ref b44), .val (.ref b48), .val (.int nm), .val (.int av50), .val (.long ((av50.toInt64) + (p2.toInt64))), .second, .unset, .unset, .unset, .unset, .unset] [])) _
            refine XS.lload X57.here hx rfl (hb hby at_141) rfl ?_
            show Steps p.tables e below (T57.setTop (mkF m 143 #[.val (.int p1), .val (.int p2), .val (.int p3), .val (.int p4), .val (.int p5), .val (.int p6), .val (.ref r1), .val (.ref r2), .val (.int (2 : Int32)), .val (.ref b44), .val (.ref b48), .val (.int nm), .val (.int av50), .val (.long ((av50.toInt64) + (p2.toInt64))), .second, .unset, .unset, .unset, .unset, .unset] [(.long ((av50.toInt64) + (p2.toInt64)))])) _
            refine XS.lconst X57.here hx rfl (hb hby at_143) ?_
            show Steps p.tables e below (T57.setTop (mkF m 144 #[.val (.int p1), .val (.int p2), .val (.int p3), .val (.int p4), .val (.int p5), .val (.int p6), .val (.ref r1), .val (.ref r2), .val (.int (2 : Int32)), .val (.ref b44), .val (.ref b48), .val (.int nm), .val (.int av50), .val (.long ((av50.toInt64) + (p2.toInt64))), .second, .unset, .unset, .unset, .unset, .unset] [(.long (0 : Int64)), (.long ((av50.toInt64) + (p2.toInt64)))])) _
            refine XS.lcmp X57.here hx rfl (hb hby at_144) rfl ?_
            show Steps p.tables e below (T57.setTop (mkF m 145 #[.val (.int p1), .val (.int p2), .val (.int p3), .val (.int p4), .val (.int p5), .val (.int p6), .val (.ref r1), .val (.ref r2), .val (.int (2 : Int32)), .val (.ref b44), .val (.ref b48), .val (.int nm), .val (.int av50), .val (.long ((av50.toInt64) + (p2.toInt64))), .second, .unset, .unset, .unset, .unset, .unset] [(.int (lcmpW ((av50.toInt64) + (p2.toInt64)) (0 : Int64)))])) _
            refine XS.ifNo X57.here hx rfl (hb hby at_145) rfl (XT.ll_lt_f ((own_idx (A := av50) (k := (2 : Int32)) (p := p2) sc50_1 (by decide)).mp gi).1) ?_
            show Steps p.tables e below (T57.setTop (mkF m 148 #[.val (.int p1), .val (.int p2), .val (.int p3), .val (.int p4), .val (.int p5), .val (.int p6), .val (.ref r1), .val (.ref r2), .val (.int (2 : Int32)), .val (.ref b44), .val (.ref b48), .val (.int nm), .val (.int av50), .val (.long ((av50.toInt64) + (p2.toInt64))), .second, .unset, .unset, .unset, .unset, .unset] [])) _
            refine XS.lload X57.here hx rfl (hb hby at_148) rfl ?_
            show Steps p.tables e below (T57.setTop (mkF m 150 #[.val (.int p1), .val (.int p2), .val (.int p3), .val (.int p4), .val (.int p5), .val (.int p6), .val (.ref r1), .val (.ref r2), .val (.int (2 : Int32)), .val (.ref b44), .val (.ref b48), .val (.int nm), .val (.int av50), .val (.long ((av50.toInt64) + (p2.toInt64))), .second, .unset, .unset, .unset, .unset, .unset] [(.long ((av50.toInt64) + (p2.toInt64)))])) _
            refine XS.iload X57.here hx rfl (hb hby at_150) rfl ?_
            show Steps p.tables e below (T57.setTop (mkF m 152 #[.val (.int p1), .val (.int p2), .val (.int p3), .val (.int p4), .val (.int p5), .val (.int p6), .val (.ref r1), .val (.ref r2), .val (.int (2 : Int32)), .val (.ref b44), .val (.ref b48), .val (.int nm), .val (.int av50), .val (.long ((av50.toInt64) + (p2.toInt64))), .second, .unset, .unset, .unset, .unset, .unset] [(.int (2 : Int32)), (.long ((av50.toInt64) + (p2.toInt64)))])) _
            refine XS.i2l X57.here hx rfl (hb hby at_152) rfl ?_
            show Steps p.tables e below (T57.setTop (mkF m 153 #[.val (.int p1), .val (.int p2), .val (.int p3), .val (.int p4), .val (.int p5), .val (.int p6), .val (.ref r1), .val (.ref r2), .val (.int (2 : Int32)), .val (.ref b44), .val (.ref b48), .val (.int nm), .val (.int av50), .val (.long ((av50.toInt64) + (p2.toInt64))), .second, .unset, .unset, .unset, .unset, .unset] [(.long ((2 : Int32).toInt64)), (.long ((av50.toInt64) + (p2.toInt64)))])) _
            refine XS.lcmp X57.here hx rfl (hb hby at_153) rfl ?_
            show Steps p.tables e below (T57.setTop (mkF m 154 #[.val (.int p1), .val (.int p2), .val (.int p3), .val (.int p4), .val (.int p5), .val (.int p6), .val (.ref r1), .val (.ref r2), .val (.int (2 : Int32)), .val (.ref b44), .val (.ref b48), .val (.int nm), .val (.int av50), .val (.long ((av50.toInt64) + (p2.toInt64))), .second, .unset, .unset, .unset, .unset, .unset] [(.int (lcmpW ((av50.toInt64) + (p2.toInt64)) ((2 : Int32).toInt64)))])) _
            refine XS.ifYes X57.here hx rfl (pc0 := 154) (pc' := 161) rfl (hb hby at_154) rfl (XT.ll_lt_t ((own_idx (A := av50) (k := (2 : Int32)) (p := p2) sc50_1 (by decide)).mp gi).2) (by decide) (by decide) ?_
            show Steps p.tables e below (T57.setTop (mkF m 161 #[.val (.int p1), .val (.int p2), .val (.int p3), .val (.int p4), .val (.int p5), .val (.int p6), .val (.ref r1), .val (.ref r2), .val (.int (2 : Int32)), .val (.ref b44), .val (.ref b48), .val (.int nm), .val (.int av50), .val (.long ((av50.toInt64) + (p2.toInt64))), .second, .unset, .unset, .unset, .unset, .unset] [])) _
            refine XS.iconst X57.here hx rfl (hb hby at_161) ?_
            show Steps p.tables e below (T57.setTop (mkF m 162 #[.val (.int p1), .val (.int p2), .val (.int p3), .val (.int p4), .val (.int p5), .val (.int p6), .val (.ref r1), .val (.ref r2), .val (.int (2 : Int32)), .val (.ref b44), .val (.ref b48), .val (.int nm), .val (.int av50), .val (.long ((av50.toInt64) + (p2.toInt64))), .second, .unset, .unset, .unset, .unset, .unset] [(.int (0 : Int32))])) _
            refine XS.istore X57.here hx rfl (hb hby at_162) rfl (l' := #[.val (.int p1), .val (.int p2), .val (.int p3), .val (.int p4), .val (.int p5), .val (.int p6), .val (.ref r1), .val (.ref r2), .val (.int (2 : Int32)), .val (.ref b44), .val (.ref b48), .val (.int nm), .val (.int av50), .val (.long ((av50.toInt64) + (p2.toInt64))), .second, .val (.int (0 : Int32)), .unset, .unset, .unset, .unset]) rfl ?_
            show Steps p.tables e below (T57.setTop (mkF m 164 #[.val (.int p1), .val (.int p2), .val (.int p3), .val (.int p4), .val (.int p5), .val (.int p6), .val (.ref r1), .val (.ref r2), .val (.int (2 : Int32)), .val (.ref b44), .val (.ref b48), .val (.int nm), .val (.int av50), .val (.long ((av50.toInt64) + (p2.toInt64))), .second, .val (.int (0 : Int32)), .unset, .unset, .unset, .unset] [])) _
            exact k
          exact hseg58 T57 _ _ _ (0 : Int32) (X57.more (by decide) (by decide)) Kq57 N hS hk hZ hown (fun _ => rfl) (fun qq_ => absurd gi qq_)
        · refine own_go (B := T57.setTop (mkF m 145 #[.val (.int p1), .val (.int p2), .val (.int p3), .val (.int p4), .val (.int p5), .val (.int p6), .val (.ref r1), .val (.ref r2), .val (.int (2 : Int32)), .val (.ref b44), .val (.ref b48), .val (.int nm), .val (.int av50), .val (.long ((av50.toInt64) + (p2.toInt64))), .second, .unset, .unset, .unset, .unset, .unset] [(.int (lcmpW ((av50.toInt64) + (p2.toInt64)) (0 : Int64)))])) (fun t k => ?_) ?_
          · show Steps p.tables e below (T57.setTop (mkF m 133 #[.val (.int p1), .val (.int p2), .val (.int p3), .val (.int p4), .val (.int p5), .val (.int p6), .val (.ref r1), .val (.ref r2), .val (.int (2 : Int32)), .val (.ref b44), .val (.ref b48), .val (.int nm), .val (.int av50), .unset, .unset, .unset, .unset, .unset, .unset, .unset] [])) _
            refine XS.iload X57.here hx rfl (hb hby at_133) rfl ?_
            show Steps p.tables e below (T57.setTop (mkF m 135 #[.val (.int p1), .val (.int p2), .val (.int p3), .val (.int p4), .val (.int p5), .val (.int p6), .val (.ref r1), .val (.ref r2), .val (.int (2 : Int32)), .val (.ref b44), .val (.ref b48), .val (.int nm), .val (.int av50), .unset, .unset, .unset, .unset, .unset, .unset, .unset] [(.int av50)])) _
            refine XS.i2l X57.here hx rfl (hb hby at_135) rfl ?_
            show Steps p.tables e below (T57.setTop (mkF m 136 #[.val (.int p1), .val (.int p2), .val (.int p3), .val (.int p4), .val (.int p5), .val (.int p6), .val (.ref r1), .val (.ref r2), .val (.int (2 : Int32)), .val (.ref b44), .val (.ref b48), .val (.int nm), .val (.int av50), .unset, .unset, .unset, .unset, .unset, .unset, .unset] [(.long (av50.toInt64))])) _
            refine XS.iloadN X57.here hx rfl (hb hby at_136) rfl ?_
            show Steps p.tables e below (T57.setTop (mkF m 137 #[.val (.int p1), .val (.int p2), .val (.int p3), .val (.int p4), .val (.int p5), .val (.int p6), .val (.ref r1), .val (.ref r2), .val (.int (2 : Int32)), .val (.ref b44), .val (.ref b48), .val (.int nm), .val (.int av50), .unset, .unset, .unset, .unset, .unset, .unset, .unset] [(.int p2), (.long (av50.toInt64))])) _
            refine XS.i2l X57.here hx rfl (hb hby at_137) rfl ?_
            show Steps p.tables e below (T57.setTop (mkF m 138 #[.val (.int p1), .val (.int p2), .val (.int p3), .val (.int p4), .val (.int p5), .val (.int p6), .val (.ref r1), .val (.ref r2), .val (.int (2 : Int32)), .val (.ref b44), .val (.ref b48), .val (.int nm), .val (.int av50), .unset, .unset, .unset, .unset, .unset, .unset, .unset] [(.long (p2.toInt64)), (.long (av50.toInt64))])) _
            refine XS.ladd X57.here hx rfl (hb hby at_138) rfl ?_
            show Steps p.tables e below (T57.setTop (mkF m 139 #[.val (.int p1), .val (.int p2), .val (.int p3), .val (.int p4), .val (.int p5), .val (.int p6), .val (.ref r1), .val (.ref r2), .val (.int (2 : Int32)), .val (.ref b44), .val (.ref b48), .val (.int nm), .val (.int av50), .unset, .unset, .unset, .unset, .unset, .unset, .unset] [(.long ((av50.toInt64) + (p2.toInt64)))])) _
            refine XS.lstore X57.here hx rfl (hb hby at_139) rfl (l' := #[.val (.int p1), .val (.int p2), .val (.int p3), .val (.int p4), .val (.int p5), .val (.int p6), .val (.ref r1), .val (.ref r2), .val (.int (2 : Int32)), .val (.ref b44), .val (.ref b48), .val (.int nm), .val (.int av50), .val (.long ((av50.toInt64) + (p2.toInt64))), .second, .unset, .unset, .unset, .unset, .unset]) rfl ?_
            show Steps p.tables e below (T57.setTop (mkF m 141 #[.val (.int p1), .val (.int p2), .val (.int p3), .val (.int p4), .val (.int p5), .val (.int p6), .val (.ref r1), .val (.ref r2), .val (.int (2 : Int32)), .val (.ref b44), .val (.ref b48), .val (.int nm), .val (.int av50), .val (.long ((av50.toInt64) + (p2.toInt64))), .second, .unset, .unset, .unset, .unset, .unset] [])) _
            refine XS.lload X57.here hx rfl (hb hby at_141) rfl ?_
            show Steps p.tables e below (T57.setTop (mkF m 143 #[.val (.int p1), .val (.int p2), .val (.int p3), .val (.int p4), .val (.int p5), .val (.int p6), .val (.ref r1), .val (.ref r2), .val (.int (2 : Int32)), .val (.ref b44), .val (.ref b48), .val (.int nm), .val (.int av50), .val (.long ((av50.toInt64) + (p2.toInt64))), .second, .unset, .unset, .unset, .unset, .unset] [(.long ((av50.toInt64) + (p2.toInt64)))])) _
            refine XS.lconst X57.here hx rfl (hb hby at_143) ?_
            show Steps p.tables e below (T57.setTop (mkF m 144 #[.val (.int p1), .val (.int p2), .val (.int p3), .val (.int p4), .val (.int p5), .val (.int p6), .val (.ref r1), .val (.ref r2), .val (.int (2 : Int32)), .val (.ref b44), .val (.ref b48), .val (.int nm), .val (.int av50), .val (.long ((av50.toInt64) + (p2.toInt64))), .second, .unset, .unset, .unset, .unset, .unset] [(.long (0 : Int64)), (.long ((av50.toInt64) + (p2.toInt64)))])) _
            refine XS.lcmp X57.here hx rfl (hb hby at_144) rfl ?_
            show Steps p.tables e below (T57.setTop (mkF m 145 #[.val (.int p1), .val (.int p2), .val (.int p3), .val (.int p4), .val (.int p5), .val (.int p6), .val (.ref r1), .val (.ref r2), .val (.int (2 : Int32)), .val (.ref b44), .val (.ref b48), .val (.int nm), .val (.int av50), .val (.long ((av50.toInt64) + (p2.toInt64))), .second, .unset, .unset, .unset, .unset, .unset] [(.int (lcmpW ((av50.toInt64) + (p2.toInt64)) (0 : Int64)))])) _
            exact k
          by_cases s145 : ((av50.toInt64) + (p2.toInt64)) < (0 : Int64)
          · refine own_go (B := T57.setTop (mkF m 164 #[.val (.int p1), .val (.int p2), .val (.int p3), .val (.int p4), .val (.int p5), .val (.int p6), .val (.ref r1), .val (.ref r2), .val (.int (2 : Int32)), .val (.ref b44), .val (.ref b48), .val (.int nm), .val (.int av50), .val (.long ((av50.toInt64) + (p2.toInt64))), .second, .val (.int (1 : Int32)), .unset, .unset, .unset, .unset] [])) (fun t k => ?_) ?_
            · show Steps p.tables e below (T57.setTop (mkF m 145 #[.val (.int p1), .val (.int p2), .val (.int p3), .val (.int p4), .val (.int p5), .val (.int p6), .val (.ref r1), .val (.ref r2), .val (.int (2 : Int32)), .val (.ref b44), .val (.ref b48), .val (.int nm), .val (.int av50), .val (.long ((av50.toInt64) + (p2.toInt64))), .second, .unset, .unset, .unset, .unset, .unset] [(.int (lcmpW ((av50.toInt64) + (p2.toInt64)) (0 : Int64)))])) _
              refine XS.ifYes X57.here hx rfl (pc0 := 145) (pc' := 157) rfl (hb hby at_145) rfl (XT.ll_lt_t s145) (by decide) (by decide) ?_
              show Steps p.tables e below (T57.setTop (mkF m 157 #[.val (.int p1), .val (.int p2), .val (.int p3), .val (.int p4), .val (.int p5), .val (.int p6), .val (.ref r1), .val (.ref r2), .val (.int (2 : Int32)), .val (.ref b44), .val (.ref b48), .val (.int nm), .val (.int av50), .val (.long ((av50.toInt64) + (p2.toInt64))), .second, .unset, .unset, .unset, .unset, .unset] [])) _
              refine XS.iconst X57.here hx rfl (hb hby at_157) ?_
              show Steps p.tables e below (T57.setTop (mkF m 158 #[.val (.int p1), .val (.int p2), .val (.int p3), .val (.int p4), .val (.int p5), .val (.int p6), .val (.ref r1), .val (.ref r2), .val (.int (2 : Int32)), .val (.ref b44), .val (.ref b48), .val (.int nm), .val (.int av50), .val (.long ((av50.toInt64) + (p2.toInt64))), .second, .unset, .unset, .unset, .unset, .unset] [(.int (1 : Int32))])) _
              refine XS.goto X57.here hx rfl (pc0 := 158) (pc' := 162) rfl (hb hby at_158) (by decide) (by decide) ?_
              show Steps p.tables e below (T57.setTop (mkF m 162 #[.val (.int p1), .val (.int p2), .val (.int p3), .val (.int p4), .val (.int p5), .val (.int p6), .val (.ref r1), .val (.ref r2), .val (.int (2 : Int32)), .val (.ref b44), .val (.ref b48), .val (.int nm), .val (.int av50), .val (.long ((av50.toInt64) + (p2.toInt64))), .second, .unset, .unset, .unset, .unset, .unset] [(.int (1 : Int32))])) _
              refine XS.istore X57.here hx rfl (hb hby at_162) rfl (l' := #[.val (.int p1), .val (.int p2), .val (.int p3), .val (.int p4), .val (.int p5), .val (.int p6), .val (.ref r1), .val (.ref r2), .val (.int (2 : Int32)), .val (.ref b44), .val (.ref b48), .val (.int nm), .val (.int av50), .val (.long ((av50.toInt64) + (p2.toInt64))), .second, .val (.int (1 : Int32)), .unset, .unset, .unset, .unset]) rfl ?_
              show Steps p.tables e below (T57.setTop (mkF m 164 #[.val (.int p1), .val (.int p2), .val (.int p3), .val (.int p4), .val (.int p5), .val (.int p6), .val (.ref r1), .val (.ref r2), .val (.int (2 : Int32)), .val (.ref b44), .val (.ref b48), .val (.int nm), .val (.int av50), .val (.long ((av50.toInt64) + (p2.toInt64))), .second, .val (.int (1 : Int32)), .unset, .unset, .unset, .unset] [])) _
              exact k
            exact hseg58 T57 _ _ _ (1 : Int32) (X57.more (by decide) (by decide)) Kq57 N hS hk hZ hown (fun qq_ => absurd qq_ gi) (fun _ => rfl)
          · refine own_go (B := T57.setTop (mkF m 164 #[.val (.int p1), .val (.int p2), .val (.int p3), .val (.int p4), .val (.int p5), .val (.int p6), .val (.ref r1), .val (.ref r2), .val (.int (2 : Int32)), .val (.ref b44), .val (.ref b48), .val (.int nm), .val (.int av50), .val (.long ((av50.toInt64) + (p2.toInt64))), .second, .val (.int (1 : Int32)), .unset, .unset, .unset, .unset] [])) (fun t k => ?_) ?_
            · show Steps p.tables e below (T57.setTop (mkF m 145 #[.val (.int p1), .val (.int p2), .val (.int p3), .val (.int p4), .val (.int p5), .val (.int p6), .val (.ref r1), .val (.ref r2), .val (.int (2 : Int32)), .val (.ref b44), .val (.ref b48), .val (.int nm), .val (.int av50), .val (.long ((av50.toInt64) + (p2.toInt64))), .second, .unset, .unset, .unset, .unset, .unset] [(.int (lcmpW ((av50.toInt64) + (p2.toInt64)) (0 : Int64)))])) _
              refine XS.ifNo X57.here hx rfl (hb hby at_145) rfl (XT.ll_lt_f s145) ?_
              show Steps p.tables e below (T57.setTop (mkF m 148 #[.val (.int p1), .val (.int p2), .val (.int p3), .val (.int p4), .val (.int p5), .val (.int p6), .val (.ref r1), .val (.ref r2), .val (.int (2 : Int32)), .val (.ref b44), .val (.ref b48), .val (.int nm), .val (.int av50), .val (.long ((av50.toInt64) + (p2.toInt64))), .second, .unset, .unset, .unset, .unset, .unset] [])) _
              refine XS.lload X57.here hx rfl (hb hby at_148) rfl ?_
              show Steps p.tables e below (T57.setTop (mkF m 150 #[.val (.int p1), .val (.int p2), .val (.int p3), .val (.int p4), .val (.int p5), .val (.int p6), .val (.ref r1), .val (.ref r2), .val (.int (2 : Int32)), .val (.ref b44), .val (.ref b48), .val (.int nm), .val (.int av50), .val (.long ((av50.toInt64) + (p2.toInt64))), .second, .unset, .unset, .unset, .unset, .unset] [(.long ((av50.toInt64) + (p2.toInt64)))])) _
              refine XS.iload X57.here hx rfl (hb hby at_150) rfl ?_
              show Steps p.tables e below (T57.setTop (mkF m 152 #[.val (.int p1), .val (.int p2), .val (.int p3), .val (.int p4), .val (.int p5), .val (.int p6), .val (.ref r1), .val (.ref r2), .val (.int (2 : Int32)), .val (.ref b44), .val (.ref b48), .val (.int nm), .val (.int av50), .val (.long ((av50.toInt64) + (p2.toInt64))), .second, .unset, .unset, .unset, .unset, .unset] [(.int (2 : Int32)), (.long ((av50.toInt64) + (p2.toInt64)))])) _
              refine XS.i2l X57.here hx rfl (hb hby at_152) rfl ?_
              show Steps p.tables e below (T57.setTop (mkF m 153 #[.val (.int p1), .val (.int p2), .val (.int p3), .val (.int p4), .val (.int p5), .val (.int p6), .val (.ref r1), .val (.ref r2), .val (.int (2 : Int32)), .val (.ref b44), .val (.ref b48), .val (.int nm), .val (.int av50), .val (.long ((av50.toInt64) + (p2.toInt64))), .second, .unset, .unset, .unset, .unset, .unset] [(.long ((2 : Int32).toInt64)), (.long ((av50.toInt64) + (p2.toInt64)))])) _
              refine XS.lcmp X57.here hx rfl (hb hby at_153) rfl ?_
              show Steps p.tables e below (T57.setTop (mkF m 154 #[.val (.int p1), .val (.int p2), .val (.int p3), .val (.int p4), .val (.int p5), .val (.int p6), .val (.ref r1), .val (.ref r2), .val (.int (2 : Int32)), .val (.ref b44), .val (.ref b48), .val (.int nm), .val (.int av50), .val (.long ((av50.toInt64) + (p2.toInt64))), .second, .unset, .unset, .unset, .unset, .unset] [(.int (lcmpW ((av50.toInt64) + (p2.toInt64)) ((2 : Int32).toInt64)))])) _
              refine XS.ifNo X57.here hx rfl (hb hby at_154) rfl (XT.ll_lt_f (fun z => gi ((own_idx (A := av50) (k := (2 : Int32)) (p := p2) sc50_1 (by decide)).mpr ⟨s145, z⟩))) ?_
              show Steps p.tables e below (T57.setTop (mkF m 157 #[.val (.int p1), .val (.int p2), .val (.int p3), .val (.int p4), .val (.int p5), .val (.int p6), .val (.ref r1), .val (.ref r2), .val (.int (2 : Int32)), .val (.ref b44), .val (.ref b48), .val (.int nm), .val (.int av50), .val (.long ((av50.toInt64) + (p2.toInt64))), .second, .unset, .unset, .unset, .unset, .unset] [])) _
              refine XS.iconst X57.here hx rfl (hb hby at_157) ?_
              show Steps p.tables e below (T57.setTop (mkF m 158 #[.val (.int p1), .val (.int p2), .val (.int p3), .val (.int p4), .val (.int p5), .val (.int p6), .val (.ref r1), .val (.ref r2), .val (.int (2 : Int32)), .val (.ref b44), .val (.ref b48), .val (.int nm), .val (.int av50), .val (.long ((av50.toInt64) + (p2.toInt64))), .second, .unset, .unset, .unset, .unset, .unset] [(.int (1 : Int32))])) _
              refine XS.goto X57.here hx rfl (pc0 := 158) (pc' := 162) rfl (hb hby at_158) (by decide) (by decide) ?_
              show Steps p.tables e below (T57.setTop (mkF m 162 #[.val (.int p1), .val (.int p2), .val (.int p3), .val (.int p4), .val (.int p5), .val (.int p6), .val (.ref r1), .val (.ref r2), .val (.int (2 : Int32)), .val (.ref b44), .val (.ref b48), .val (.int nm), .val (.int av50), .val (.long ((av50.toInt64) + (p2.toInt64))), .second, .unset, .unset, .unset, .unset, .unset] [(.int (1 : Int32))])) _
              refine XS.istore X57.here hx rfl (hb hby at_162) rfl (l' := #[.val (.int p1), .val (.int p2), .val (.int p3), .val (.int p4), .val (.int p5), .val (.int p6), .val (.ref r1), .val (.ref r2), .val (.int (2 : Int32)), .val (.ref b44), .val (.ref b48), .val (.int nm), .val (.int av50), .val (.long ((av50.toInt64) + (p2.toInt64))), .second, .val (.int (1 : Int32)), .unset, .unset, .unset, .unset]) rfl ?_
              show Steps p.tables e below (T57.setTop (mkF m 164 #[.val (.int p1), .val (.int p2), .val (.int p3), .val (.int p4), .val (.int p5), .val (.int p6), .val (.ref r1), .val (.ref r2), .val (.int (2 : Int32)), .val (.ref b44), .val (.ref b48), .val (.int nm), .val (.int av50), .val (.long ((av50.toInt64) + (p2.toInt64))), .second, .val (.int (1 : Int32)), .unset, .unset, .unset, .unset] [])) _
              exact k
            exact hseg58 T57 _ _ _ (1 : Int32) (X57.more (by decide) (by decide)) Kq57 N hS hk hZ hown (fun qq_ => absurd qq_ gi) (fun _ => rfl)
      intro T58 vm58 kk58 L58 xe58 X58 e58 N hS hk hZ hown sc58_0 sc58_1
      refine own_go (B := T58.setTop (mkF m 167 #[.val (.int p1), .val (.int p2), .val (.int p3), .val (.int p4), .val (.int p5), .val (.int p6), .val (.ref r1), .val (.ref r2), .val (.int (2 : Int32)), .val (.ref b44), .val (.ref b48), .val (.int nm), .val (.int av50), .val (.long ((av50.toInt64) + (p2.toInt64))), .second, .val (.int xe58), .unset, .unset, .unset, .unset] [(.int p2), (.ref b48)])) (fun t k => ?_) ?_
      · show Steps p.tables e below (T58.setTop (mkF m 164 #[.val (.int p1), .val (.int p2), .val (.int p3), .val (.int p4), .val (.int p5), .val (.int p6), .val (.ref r1), .val (.ref r2), .val (.int (2 : Int32)), .val (.ref b44), .val (.ref b48), .val (.int nm), .val (.int av50), .val (.long ((av50.toInt64) + (p2.toInt64))), .second, .val (.int xe58), .unset, .unset, .unset, .unset] [])) _
        refine XS.aload X58.here hx rfl (hb hby at_164) rfl rfl ?_
        show Steps p.tables e below (T58.setTop (mkF m 166 #[.val (.int p1), .val (.int p2), .val (.int p3), .val (.int p4), .val (.int p5), .val (.int p6), .val (.ref r1), .val (.ref r2), .val (.int (2 : Int32)), .val (.ref b44), .val (.ref b48), .val (.int nm), .val (.int av50), .val (.long ((av50.toInt64) + (p2.toInt64))), .second, .val (.int xe58), .unset, .unset, .unset, .unset] [(.ref b48)])) _
        refine XS.iloadN X58.here hx rfl (hb hby at_166) rfl ?_
        show Steps p.tables e below (T58.setTop (mkF m 167 #[.val (.int p1), .val (.int p2), .val (.int p3), .val (.int p4), .val (.int p5), .val (.int p6), .val (.ref r1), .val (.ref r2), .val (.int (2 : Int32)), .val (.ref b44), .val (.ref b48), .val (.int nm), .val (.int av50), .val (.long ((av50.toInt64) + (p2.toInt64))), .second, .val (.int xe58), .unset, .unset, .unset, .unset] [(.int p2), (.ref b48)])) _
        exact k
      -- pc 167: com/example/nasute/nasute/sql/TokenCursor.peek
      obtain ⟨cq59, kq59, q59a, q59b, q59c⟩ := isOf hZ e58 A48
      obtain ⟨_, _, ⟨T59, L59, k59, n59⟩, -, X59, ⟨Lc59, hQ59, l59, y59, z59⟩, st59⟩ := X58.virtualBackUp hx (x := (⟨"com/example/nasute/nasute/sql/TokenCursorIsTextEndPinLaw", "peek", "(I)Lcom/example/nasute/nasute/sql/Token;"⟩ : MethodName)) (y := (⟨"com/example/nasute/nasute/sql/TokenCursor", "peek", "(I)Lcom/example/nasute/nasute/sql/Token;"⟩ : MethodName)) hown (mvT hZ (hw _ (own_g (i := 108) rfl))) (mvT hZ (hw _ (own_g (i := 109) rfl))) (mvT hZ (hw _ (own_g (i := 110) rfl))) (by decide) (mvT hZ (hw _ (own_g (i := 112) rfl))) (mvT hZ (hw _ (own_g (i := 111) rfl))) (backOf (W := 0) (rmPk2 l Z a0 hw [] b48 b44 en49 da46 kda46 r1 r2 av50 p2 h50 n0 O A48 Gq49_1 Gq49_2 Sg50_0 A44 Gq47_2 Gq47_1 Gq47_3 Gq1_0 Gq2_0 (Nat.ne_of_lt lt_r1_en49) (Nat.ne_of_lt lt_r2_en49)) hZ (hw _ (own_g (i := 113) rfl)) (hw _ (own_g (i := 90) rfl)) (by decide) (by decide)) q59a q59c (g := (mkF m 167 #[.val (.int p1), .val (.int p2), .val (.int p3), .val (.int p4), .val (.int p5), .val (.int p6), .val (.ref r1), .val (.ref r2), .val (.int (2 : Int32)), .val (.ref b44), .val (.ref b48), .val (.int nm), .val (.int av50), .val (.long ((av50.toInt64) + (p2.toInt64))), .second, .val (.int xe58), .unset, .unset, .unset, .unset] [(.int p2), (.ref b48)])) rfl (by rw [hml]; rfl) (Steps.refl _) (argsL := [(.int p2)]) (rest := []) (lenOf pd_15 rfl) rfl (by show 2 * 0 + _ ≤ _; exact Nat.le_of_eq rfl) (hb hby at_167) (fun _ hWm => ⟨rfl, e58, (by decide : 12 + 0 ≤ _), (by decide : 42 + 0 ≤ _)⟩)
      dsimp only [Pt.U, Pt.locs, Pt.cells, Pt.slots] at X59 l59 y59 z59 st59 hQ59
      subst l59 y59 z59
      obtain ⟨r59, rfl, Nq59, Kq59, cq59_0, cq59_1⟩ := hQ59
      replace N := Fr.app N Nq59
      refine own_go (B := T59.setTop (mkF m 170 #[.val (.int p1), .val (.int p2), .val (.int p3), .val (.int p4), .val (.int p5), .val (.int p6), .val (.ref r1), .val (.ref r2), .val (.int (2 : Int32)), .val (.ref b44), .val (.ref b48), .val (.int nm), .val (.int av50), .val (.long ((av50.toInt64) + (p2.toInt64))), .second, .val (.int xe58), .unset, .unset, .unset, .unset] [(.ref r59)])) (fun t k => st59.trans k) ?_
      refine own_go (B := T59.setTop (mkF m 176 #[.val (.int p1), .val (.int p2), .val (.int p3), .val (.int p4), .val (.int p5), .val (.int p6), .val (.ref r1), .val (.ref r2), .val (.int (2 : Int32)), .val (.ref b44), .val (.ref b48), .val (.int nm), .val (.int av50), .val (.long ((av50.toInt64) + (p2.toInt64))), .second, .val (.int xe58), .val (.ref r59), .unset, .unset, .unset] [(.ref r59), (.ref b48)])) (fun t k => ?_) ?_
      · show Steps p.tables e below (T59.setTop (mkF m 170 #[.val (.int p1), .val (.int p2), .val (.int p3), .val (.int p4), .val (.int p5), .val (.int p6), .val (.ref r1), .val (.ref r2), .val (.int (2 : Int32)), .val (.ref b44), .val (.ref b48), .val (.int nm), .val (.int av50), .val (.long ((av50.toInt64) + (p2.toInt64))), .second, .val (.int xe58), .unset, .unset, .unset, .unset] [(.ref r59)])) _
        refine XS.astore X59.here hx rfl (hb hby at_170) rfl rfl (l' := #[.val (.int p1), .val (.int p2), .val (.int p3), .val (.int p4), .val (.int p5), .val (.int p6), .val (.ref r1), .val (.ref r2), .val (.int (2 : Int32)), .val (.ref b44), .val (.ref b48), .val (.int nm), .val (.int av50), .val (.long ((av50.toInt64) + (p2.toInt64))), .second, .val (.int xe58), .val (.ref r59), .unset, .unset, .unset]) rfl ?_
        show Steps p.tables e below (T59.setTop (mkF m 172 #[.val (.int p1), .val (.int p2), .val (.int p3), .val (.int p4), .val (.int p5), .val (.int p6), .val (.ref r1), .val (.ref r2), .val (.int (2 : Int32)), .val (.ref b44), .val (.ref b48), .val (.int nm), .val (.int av50), .val (.long ((av50.toInt64) + (p2.toInt64))), .second, .val (.int xe58), .val (.ref r59), .unset, .unset, .unset] [])) _
        refine XS.aload X59.here hx rfl (hb hby at_172) rfl rfl ?_
        show Steps p.tables e below (T59.setTop (mkF m 174 #[.val (.int p1), .val (.int p2), .val (.int p3), .val (.int p4), .val (.int p5), .val (.int p6), .val (.ref r1), .val (.ref r2), .val (.int (2 : Int32)), .val (.ref b44), .val (.ref b48), .val (.int nm), .val (.int av50), .val (.long ((av50.toInt64) + (p2.toInt64))), .second, .val (.int xe58), .val (.ref r59), .unset, .unset, .unset] [(.ref b48)])) _
        refine XS.aload X59.here hx rfl (hb hby at_174) rfl rfl ?_
        show Steps p.tables e below (T59.setTop (mkF m 176 #[.val (.int p1), .val (.int p2), .val (.int p3), .val (.int p4), .val (.int p5), .val (.int p6), .val (.ref r1), .val (.ref r2), .val (.int (2 : Int32)), .val (.ref b44), .val (.ref b48), .val (.int nm), .val (.int av50), .val (.long ((av50.toInt64) + (p2.toInt64))), .second, .val (.int xe58), .val (.ref r59), .unset, .unset, .unset] [(.ref r59), (.ref b48)])) _
        exact k
      -- pc 176: com/example/nasute/nasute/sql/TokenCursor.isTextEnd
      obtain ⟨cq60, kq60, q60a, q60b, q60c⟩ := isOf hZ Kq59 A48
      obtain ⟨_, _, ⟨T60, L60, k60, n60⟩, -, X60, ⟨Lc60, hQ60, l60, y60, z60⟩, st60⟩ := X59.virtualBackUp hx (x := (⟨"com/example/nasute/nasute/sql/TokenCursorIsTextEndPinLaw", "isTextEnd", "(Lcom/example/nasute/nasute/sql/Token;)Z"⟩ : MethodName)) (y := (⟨"com/example/nasute/nasute/sql/TokenCursor", "isTextEnd", "(Lcom/example/nasute/nasute/sql/Token;)Z"⟩ : MethodName)) hown (mvT hZ (hw _ (own_g (i := 127) rfl))) (mvT hZ (hw _ (own_g (i := 128) rfl))) (mvT hZ (hw _ (own_g (i := 129) rfl))) (by decide) (mvT hZ (hw _ (own_g (i := 131) rfl))) (mvT hZ (hw _ (own_g (i := 130) rfl))) (backOf (W := 0) (rmTex l Z a0 hw [] b48 r59 en49 h50 n0 O Gq49_2) hZ (hw _ (own_g (i := 132) rfl)) (hw _ (own_g (i := 90) rfl)) (by decide) (by decide)) q60a q60c (g := (mkF m 176 #[.val (.int p1), .val (.int p2), .val (.int p3), .val (.int p4), .val (.int p5), .val (.int p6), .val (.ref r1), .val (.ref r2), .val (.int (2 : Int32)), .val (.ref b44), .val (.ref b48), .val (.int nm), .val (.int av50), .val (.long ((av50.toInt64) + (p2.toInt64))), .second, .val (.int xe58), .val (.ref r59), .unset, .unset, .unset] [(.ref r59), (.ref b48)])) rfl (by rw [hml]; rfl) (Steps.refl _) (argsL := [(.ref r59)]) (rest := []) (lenOf pd_18 rfl) rfl (by show 2 * 0 + _ ≤ _; exact Nat.le_of_eq rfl) (hb hby at_176) (fun _ hWm => ⟨rfl, Kq59, (by decide : 12 + 0 ≤ _), (by decide : 42 + 0 ≤ _)⟩)
      dsimp only [Pt.U, Pt.locs, Pt.cells, Pt.slots] at X60 l60 y60 z60 st60 hQ60
      subst l60 y60 z60
      obtain ⟨vv60, rfl, Nq60, Kq60, cq60_0, cq60_1⟩ := hQ60
      replace N := Fr.app N Nq60
      refine own_go (B := T60.setTop (mkF m 179 #[.val (.int p1), .val (.int p2), .val (.int p3), .val (.int p4), .val (.int p5), .val (.int p6), .val (.ref r1), .val (.ref r2), .val (.int (2 : Int32)), .val (.ref b44), .val (.ref b48), .val (.int nm), .val (.int av50), .val (.long ((av50.toInt64) + (p2.toInt64))), .second, .val (.int xe58), .val (.ref r59), .unset, .unset, .unset] [(.int vv60)])) (fun t k => st60.trans k) ?_
      refine own_go (B := T60.setTop (mkF m 195 #[.val (.int p1), .val (.int p2), .val (.int p3), .val (.int p4), .val (.int p5), .val (.int p6), .val (.ref r1), .val (.ref r2), .val (.int (2 : Int32)), .val (.ref b44), .val (.ref b48), .val (.int nm), .val (.int av50), .val (.long ((av50.toInt64) + (p2.toInt64))), .second, .val (.int xe58), .val (.ref r59), .val (.int (1 : Int32)), .unset, .unset] [(.ref r1), (.ref b48)])) (fun t k => ?_) ?_
      · show Steps p.tables e below (T60.setTop (mkF m 179 #[.val (.int p1), .val (.int p2), .val (.int p3), .val (.int p4), .val (.int p5), .val (.int p6), .val (.ref r1), .val (.ref r2), .val (.int (2 : Int32)), .val (.ref b44), .val (.ref b48), .val (.int nm), .val (.int av50), .val (.long ((av50.toInt64) + (p2.toInt64))), .second, .val (.int xe58), .val (.ref r59), .unset, .unset, .unset] [(.int vv60)])) _
        refine XS.iload X60.here hx rfl (hb hby at_179) rfl ?_
        show Steps p.tables e below (T60.setTop (mkF m 181 #[.val (.int p1), .val (.int p2), .val (.int p3), .val (.int p4), .val (.int p5), .val (.int p6), .val (.ref r1), .val (.ref r2), .val (.int (2 : Int32)), .val (.ref b44), .val (.ref b48), .val (.int nm), .val (.int av50), .val (.long ((av50.toInt64) + (p2.toInt64))), .second, .val (.int xe58), .val (.ref r59), .unset, .unset, .unset] [(.int xe58), (.int vv60)])) _
        refine XS.icmpNo X60.here hx rfl (hb hby at_181) rfl (teq (own_eq3 cq59_0 cq59_1 cq60_0 cq60_1 sc58_0 sc58_1)).2 ?_
        show Steps p.tables e below (T60.setTop (mkF m 184 #[.val (.int p1), .val (.int p2), .val (.int p3), .val (.int p4), .val (.int p5), .val (.int p6), .val (.ref r1), .val (.ref r2), .val (.int (2 : Int32)), .val (.ref b44), .val (.ref b48), .val (.int nm), .val (.int av50), .val (.long ((av50.toInt64) + (p2.toInt64))), .second, .val (.int xe58), .val (.ref r59), .unset, .unset, .unset] [])) _
        refine XS.iconst X60.here hx rfl (hb hby at_184) ?_
        show Steps p.tables e below (T60.setTop (mkF m 185 #[.val (.int p1), .val (.int p2), .val (.int p3), .val (.int p4), .val (.int p5), .val (.int p6), .val (.ref r1), .val (.ref r2), .val (.int (2 : Int32)), .val (.ref b44), .val (.ref b48), .val (.int nm), .val (.int av50), .val (.long ((av50.toInt64) + (p2.toInt64))), .second, .val (.int xe58), .val (.ref r59), .unset, .unset, .unset] [(.int (1 : Int32))])) _
        refine XS.goto X60.here hx rfl (pc0 := 185) (pc' := 189) rfl (hb hby at_185) (by decide) (by decide) ?_
        show Steps p.tables e below (T60.setTop (mkF m 189 #[.val (.int p1), .val (.int p2), .val (.int p3), .val (.int p4), .val (.int p5), .val (.int p6), .val (.ref r1), .val (.ref r2), .val (.int (2 : Int32)), .val (.ref b44), .val (.ref b48), .val (.int nm), .val (.int av50), .val (.long ((av50.toInt64) + (p2.toInt64))), .second, .val (.int xe58), .val (.ref r59), .unset, .unset, .unset] [(.int (1 : Int32))])) _
        refine XS.istore X60.here hx rfl (hb hby at_189) rfl (l' := #[.val (.int p1), .val (.int p2), .val (.int p3), .val (.int p4), .val (.int p5), .val (.int p6), .val (.ref r1), .val (.ref r2), .val (.int (2 : Int32)), .val (.ref b44), .val (.ref b48), .val (.int nm), .val (.int av50), .val (.long ((av50.toInt64) + (p2.toInt64))), .second, .val (.int xe58), .val (.ref r59), .val (.int (1 : Int32)), .unset, .unset]) rfl ?_
        show Steps p.tables e below (T60.setTop (mkF m 191 #[.val (.int p1), .val (.int p2), .val (.int p3), .val (.int p4), .val (.int p5), .val (.int p6), .val (.ref r1), .val (.ref r2), .val (.int (2 : Int32)), .val (.ref b44), .val (.ref b48), .val (.int nm), .val (.int av50), .val (.long ((av50.toInt64) + (p2.toInt64))), .second, .val (.int xe58), .val (.ref r59), .val (.int (1 : Int32)), .unset, .unset] [])) _
        refine XS.aload X60.here hx rfl (hb hby at_191) rfl rfl ?_
        show Steps p.tables e below (T60.setTop (mkF m 193 #[.val (.int p1), .val (.int p2), .val (.int p3), .val (.int p4), .val (.int p5), .val (.int p6), .val (.ref r1), .val (.ref r2), .val (.int (2 : Int32)), .val (.ref b44), .val (.ref b48), .val (.int nm), .val (.int av50), .val (.long ((av50.toInt64) + (p2.toInt64))), .second, .val (.int xe58), .val (.ref r59), .val (.int (1 : Int32)), .unset, .unset] [(.ref b48)])) _
        refine XS.aload X60.here hx rfl (hb hby at_193) rfl rfl ?_
        show Steps p.tables e below (T60.setTop (mkF m 195 #[.val (.int p1), .val (.int p2), .val (.int p3), .val (.int p4), .val (.int p5), .val (.int p6), .val (.ref r1), .val (.ref r2), .val (.int (2 : Int32)), .val (.ref b44), .val (.ref b48), .val (.int nm), .val (.int av50), .val (.long ((av50.toInt64) + (p2.toInt64))), .second, .val (.int xe58), .val (.ref r59), .val (.int (1 : Int32)), .unset, .unset] [(.ref r1), (.ref b48)])) _
        exact k
      -- pc 195: com/example/nasute/nasute/sql/TokenCursor.isTextEnd
      obtain ⟨cq61, kq61, q61a, q61b, q61c⟩ := isOf hZ Kq60 A48
      obtain ⟨_, _, ⟨T61, L61, k61, n61⟩, -, X61, ⟨Lc61, hQ61, l61, y61, z61⟩, st61⟩ := X60.virtualBackUp hx (x := (⟨"com/example/nasute/nasute/sql/TokenCursorIsTextEndPinLaw", "isTextEnd", "(Lcom/example/nasute/nasute/sql/Token;)Z"⟩ : MethodName)) (y := (⟨"com/example/nasute/nasute/sql/TokenCursor", "isTextEnd", "(Lcom/example/nasute/nasute/sql/Token;)Z"⟩ : MethodName)) hown (mvT hZ (hw _ (own_g (i := 127) rfl))) (mvT hZ (hw _ (own_g (i := 128) rfl))) (mvT hZ (hw _ (own_g (i := 129) rfl))) (by decide) (mvT hZ (hw _ (own_g (i := 131) rfl))) (mvT hZ (hw _ (own_g (i := 130) rfl))) (backOf (W := 0) (rmTex l Z a0 hw [] b48 r1 en49 h50 n0 O Gq49_2) hZ (hw _ (own_g (i := 132) rfl)) (hw _ (own_g (i := 90) rfl)) (by decide) (by decide)) q61a q61c (g := (mkF m 195 #[.val (.int p1), .val (.int p2), .val (.int p3), .val (.int p4), .val (.int p5), .val (.int p6), .val (.ref r1), .val (.ref r2), .val (.int (2 : Int32)), .val (.ref b44), .val (.ref b48), .val (.int nm), .val (.int av50), .val (.long ((av50.toInt64) + (p2.toInt64))), .second, .val (.int xe58), .val (.ref r59), .val (.int (1 : Int32)), .unset, .unset] [(.ref r1), (.ref b48)])) rfl (by rw [hml]; rfl) (Steps.refl _) (argsL := [(.ref r1)]) (rest := []) (lenOf pd_18 rfl) rfl (by show 2 * 0 + _ ≤ _; exact Nat.le_of_eq rfl) (hb hby at_195) (fun _ hWm => ⟨rfl, Kq60, (by decide : 12 + 0 ≤ _), (by decide : 42 + 0 ≤ _)⟩)
      dsimp only [Pt.U, Pt.locs, Pt.cells, Pt.slots] at X61 l61 y61 z61 st61 hQ61
      subst l61 y61 z61
      obtain ⟨vv61, rfl, Nq61, Kq61, cq61_0, cq61_1⟩ := hQ61
      replace N := Fr.app N Nq61
      refine own_go (B := T61.setTop (mkF m 198 #[.val (.int p1), .val (.int p2), .val (.int p3), .val (.int p4), .val (.int p5), .val (.int p6), .val (.ref r1), .val (.ref r2), .val (.int (2 : Int32)), .val (.ref b44), .val (.ref b48), .val (.int nm), .val (.int av50), .val (.long ((av50.toInt64) + (p2.toInt64))), .second, .val (.int xe58), .val (.ref r59), .val (.int (1 : Int32)), .unset, .unset] [(.int vv61)])) (fun t k => st61.trans k) ?_
      refine own_go (B := T61.setTop (mkF m 205 #[.val (.int p1), .val (.int p2), .val (.int p3), .val (.int p4), .val (.int p5), .val (.int p6), .val (.ref r1), .val (.ref r2), .val (.int (2 : Int32)), .val (.ref b44), .val (.ref b48), .val (.int nm), .val (.int av50), .val (.long ((av50.toInt64) + (p2.toInt64))), .second, .val (.int xe58), .val (.ref r59), .val (.int (1 : Int32)), .unset, .unset] [(.ref r2), (.ref b48)])) (fun t k => ?_) ?_
      · show Steps p.tables e below (T61.setTop (mkF m 198 #[.val (.int p1), .val (.int p2), .val (.int p3), .val (.int p4), .val (.int p5), .val (.int p6), .val (.ref r1), .val (.ref r2), .val (.int (2 : Int32)), .val (.ref b44), .val (.ref b48), .val (.int nm), .val (.int av50), .val (.long ((av50.toInt64) + (p2.toInt64))), .second, .val (.int xe58), .val (.ref r59), .val (.int (1 : Int32)), .unset, .unset] [(.int vv61)])) _
        refine XS.ifNo X61.here hx rfl (hb hby at_198) rfl ((if0 _ _).trans (teq (cq61_1 (Nat.ne_of_lt lt_r1_en49))).2) ?_
        show Steps p.tables e below (T61.setTop (mkF m 201 #[.val (.int p1), .val (.int p2), .val (.int p3), .val (.int p4), .val (.int p5), .val (.int p6), .val (.ref r1), .val (.ref r2), .val (.int (2 : Int32)), .val (.ref b44), .val (.ref b48), .val (.int nm), .val (.int av50), .val (.long ((av50.toInt64) + (p2.toInt64))), .second, .val (.int xe58), .val (.ref r59), .val (.int (1 : Int32)), .unset, .unset] [])) _
        refine XS.aload X61.here hx rfl (hb hby at_201) rfl rfl ?_
        show Steps p.tables e below (T61.setTop (mkF m 203 #[.val (.int p1), .val (.int p2), .val (.int p3), .val (.int p4), .val (.int p5), .val (.int p6), .val (.ref r1), .val (.ref r2), .val (.int (2 : Int32)), .val (.ref b44), .val (.ref b48), .val (.int nm), .val (.int av50), .val (.long ((av50.toInt64) + (p2.toInt64))), .second, .val (.int xe58), .val (.ref r59), .val (.int (1 : Int32)), .unset, .unset] [(.ref b48)])) _
        refine XS.aload X61.here hx rfl (hb hby at_203) rfl rfl ?_
        show Steps p.tables e below (T61.setTop (mkF m 205 #[.val (.int p1), .val (.int p2), .val (.int p3), .val (.int p4), .val (.int p5), .val (.int p6), .val (.ref r1), .val (.ref r2), .val (.int (2 : Int32)), .val (.ref b44), .val (.ref b48), .val (.int nm), .val (.int av50), .val (.long ((av50.toInt64) + (p2.toInt64))), .second, .val (.int xe58), .val (.ref r59), .val (.int (1 : Int32)), .unset, .unset] [(.ref r2), (.ref b48)])) _
        exact k
      -- pc 205: com/example/nasute/nasute/sql/TokenCursor.isTextEnd
      obtain ⟨cq62, kq62, q62a, q62b, q62c⟩ := isOf hZ Kq61 A48
      obtain ⟨_, _, ⟨T62, L62, k62, n62⟩, -, X62, ⟨Lc62, hQ62, l62, y62, z62⟩, st62⟩ := X61.virtualBackUp hx (x := (⟨"com/example/nasute/nasute/sql/TokenCursorIsTextEndPinLaw", "isTextEnd", "(Lcom/example/nasute/nasute/sql/Token;)Z"⟩ : MethodName)) (y := (⟨"com/example/nasute/nasute/sql/TokenCursor", "isTextEnd", "(Lcom/example/nasute/nasute/sql/Token;)Z"⟩ : MethodName)) hown (mvT hZ (hw _ (own_g (i := 127) rfl))) (mvT hZ (hw _ (own_g (i := 128) rfl))) (mvT hZ (hw _ (own_g (i := 129) rfl))) (by decide) (mvT hZ (hw _ (own_g (i := 131) rfl))) (mvT hZ (hw _ (own_g (i := 130) rfl))) (backOf (W := 0) (rmTex l Z a0 hw [] b48 r2 en49 h50 n0 O Gq49_2) hZ (hw _ (own_g (i := 132) rfl)) (hw _ (own_g (i := 90) rfl)) (by decide) (by decide)) q62a q62c (g := (mkF m 205 #[.val (.int p1), .val (.int p2), .val (.int p3), .val (.int p4), .val (.int p5), .val (.int p6), .val (.ref r1), .val (.ref r2), .val (.int (2 : Int32)), .val (.ref b44), .val (.ref b48), .val (.int nm), .val (.int av50), .val (.long ((av50.toInt64) + (p2.toInt64))), .second, .val (.int xe58), .val (.ref r59), .val (.int (1 : Int32)), .unset, .unset] [(.ref r2), (.ref b48)])) rfl (by rw [hml]; rfl) (Steps.refl _) (argsL := [(.ref r2)]) (rest := []) (lenOf pd_18 rfl) rfl (by show 2 * 0 + _ ≤ _; exact Nat.le_of_eq rfl) (hb hby at_205) (fun _ hWm => ⟨rfl, Kq61, (by decide : 12 + 0 ≤ _), (by decide : 42 + 0 ≤ _)⟩)
      dsimp only [Pt.U, Pt.locs, Pt.cells, Pt.slots] at X62 l62 y62 z62 st62 hQ62
      subst l62 y62 z62
      obtain ⟨vv62, rfl, Nq62, Kq62, cq62_0, cq62_1⟩ := hQ62
      replace N := Fr.app N Nq62
      refine own_go (B := T62.setTop (mkF m 208 #[.val (.int p1), .val (.int p2), .val (.int p3), .val (.int p4), .val (.int p5), .val (.int p6), .val (.ref r1), .val (.ref r2), .val (.int (2 : Int32)), .val (.ref b44), .val (.ref b48), .val (.int nm), .val (.int av50), .val (.long ((av50.toInt64) + (p2.toInt64))), .second, .val (.int xe58), .val (.ref r59), .val (.int (1 : Int32)), .unset, .unset] [(.int vv62)])) (fun t k => st62.trans k) ?_
      refine own_go (B := T62.setTop (mkF m 227 #[.val (.int p1), .val (.int p2), .val (.int p3), .val (.int p4), .val (.int p5), .val (.int p6), .val (.ref r1), .val (.ref r2), .val (.int (2 : Int32)), .val (.ref b44), .val (.ref b48), .val (.int nm), .val (.int av50), .val (.long ((av50.toInt64) + (p2.toInt64))), .second, .val (.int xe58), .val (.ref r59), .val (.int (1 : Int32)), .val (.int (1 : Int32)), .unset] [(.int ((2 : Int32) - av50)), (.ref b48), (.ref b48)])) (fun t k => ?_) ?_
      · show Steps p.tables e below (T62.setTop (mkF m 208 #[.val (.int p1), .val (.int p2), .val (.int p3), .val (.int p4), .val (.int p5), .val (.int p6), .val (.ref r1), .val (.ref r2), .val (.int (2 : Int32)), .val (.ref b44), .val (.ref b48), .val (.int nm), .val (.int av50), .val (.long ((av50.toInt64) + (p2.toInt64))), .second, .val (.int xe58), .val (.ref r59), .val (.int (1 : Int32)), .unset, .unset] [(.int vv62)])) _
        refine XS.ifNo X62.here hx rfl (hb hby at_208) rfl ((if0 _ _).trans (teq (cq62_1 (Nat.ne_of_lt lt_r2_en49))).2) ?_
        show Steps p.tables e below (T62.setTop (mkF m 211 #[.val (.int p1), .val (.int p2), .val (.int p3), .val (.int p4), .val (.int p5), .val (.int p6), .val (.ref r1), .val (.ref r2), .val (.int (2 : Int32)), .val (.ref b44), .val (.ref b48), .val (.int nm), .val (.int av50), .val (.long ((av50.toInt64) + (p2.toInt64))), .second, .val (.int xe58), .val (.ref r59), .val (.int (1 : Int32)), .unset, .unset] [])) _
        refine XS.iconst X62.here hx rfl (hb hby at_211) ?_
        show Steps p.tables e below (T62.setTop (mkF m 212 #[.val (.int p1), .val (.int p2), .val (.int p3), .val (.int p4), .val (.int p5), .val (.int p6), .val (.ref r1), .val (.ref r2), .val (.int (2 : Int32)), .val (.ref b44), .val (.ref b48), .val (.int nm), .val (.int av50), .val (.long ((av50.toInt64) + (p2.toInt64))), .second, .val (.int xe58), .val (.ref r59), .val (.int (1 : Int32)), .unset, .unset] [(.int (1 : Int32))])) _
        refine XS.goto X62.here hx rfl (pc0 := 212) (pc' := 216) rfl (hb hby at_212) (by decide) (by decide) ?_
        show Steps p.tables e below (T62.setTop (mkF m 216 #[.val (.int p1), .val (.int p2), .val (.int p3), .val (.int p4), .val (.int p5), .val (.int p6), .val (.ref r1), .val (.ref r2), .val (.int (2 : Int32)), .val (.ref b44), .val (.ref b48), .val (.int nm), .val (.int av50), .val (.long ((av50.toInt64) + (p2.toInt64))), .second, .val (.int xe58), .val (.ref r59), .val (.int (1 : Int32)), .unset, .unset] [(.int (1 : Int32))])) _
        refine XS.istore X62.here hx rfl (hb hby at_216) rfl (l' := #[.val (.int p1), .val (.int p2), .val (.int p3), .val (.int p4), .val (.int p5), .val (.int p6), .val (.ref r1), .val (.ref r2), .val (.int (2 : Int32)), .val (.ref b44), .val (.ref b48), .val (.int nm), .val (.int av50), .val (.long ((av50.toInt64) + (p2.toInt64))), .second, .val (.int xe58), .val (.ref r59), .val (.int (1 : Int32)), .val (.int (1 : Int32)), .unset]) rfl ?_
        show Steps p.tables e below (T62.setTop (mkF m 218 #[.val (.int p1), .val (.int p2), .val (.int p3), .val (.int p4), .val (.int p5), .val (.int p6), .val (.ref r1), .val (.ref r2), .val (.int (2 : Int32)), .val (.ref b44), .val (.ref b48), .val (.int nm), .val (.int av50), .val (.long ((av50.toInt64) + (p2.toInt64))), .second, .val (.int xe58), .val (.ref r59), .val (.int (1 : Int32)), .val (.int (1 : Int32)), .unset] [])) _
        refine XS.aload X62.here hx rfl (hb hby at_218) rfl rfl ?_
        show Steps p.tables e below (T62.setTop (mkF m 220 #[.val (.int p1), .val (.int p2), .val (.int p3), .val (.int p4), .val (.int p5), .val (.int p6), .val (.ref r1), .val (.ref r2), .val (.int (2 : Int32)), .val (.ref b44), .val (.ref b48), .val (.int nm), .val (.int av50), .val (.long ((av50.toInt64) + (p2.toInt64))), .second, .val (.int xe58), .val (.ref r59), .val (.int (1 : Int32)), .val (.int (1 : Int32)), .unset] [(.ref b48)])) _
        refine XS.aload X62.here hx rfl (hb hby at_220) rfl rfl ?_
        show Steps p.tables e below (T62.setTop (mkF m 222 #[.val (.int p1), .val (.int p2), .val (.int p3), .val (.int p4), .val (.int p5), .val (.int p6), .val (.ref r1), .val (.ref r2), .val (.int (2 : Int32)), .val (.ref b44), .val (.ref b48), .val (.int nm), .val (.int av50), .val (.long ((av50.toInt64) + (p2.toInt64))), .second, .val (.int xe58), .val (.ref r59), .val (.int (1 : Int32)), .val (.int (1 : Int32)), .unset] [(.ref b48), (.ref b48)])) _
        refine XS.iload X62.here hx rfl (hb hby at_222) rfl ?_
        show Steps p.tables e below (T62.setTop (mkF m 224 #[.val (.int p1), .val (.int p2), .val (.int p3), .val (.int p4), .val (.int p5), .val (.int p6), .val (.ref r1), .val (.ref r2), .val (.int (2 : Int32)), .val (.ref b44), .val (.ref b48), .val (.int nm), .val (.int av50), .val (.long ((av50.toInt64) + (p2.toInt64))), .second, .val (.int xe58), .val (.ref r59), .val (.int (1 : Int32)), .val (.int (1 : Int32)), .unset] [(.int (2 : Int32)), (.ref b48), (.ref b48)])) _
        refine XS.iload X62.here hx rfl (hb hby at_224) rfl ?_
        show Steps p.tables e below (T62.setTop (mkF m 226 #[.val (.int p1), .val (.int p2), .val (.int p3), .val (.int p4), .val (.int p5), .val (.int p6), .val (.ref r1), .val (.ref r2), .val (.int (2 : Int32)), .val (.ref b44), .val (.ref b48), .val (.int nm), .val (.int av50), .val (.long ((av50.toInt64) + (p2.toInt64))), .second, .val (.int xe58), .val (.ref r59), .val (.int (1 : Int32)), .val (.int (1 : Int32)), .unset] [(.int av50), (.int (2 : Int32)), (.ref b48), (.ref b48)])) _
        refine XS.isub X62.here hx rfl (hb hby at_226) rfl ?_
        show Steps p.tables e below (T62.setTop (mkF m 227 #[.val (.int p1), .val (.int p2), .val (.int p3), .val (.int p4), .val (.int p5), .val (.int p6), .val (.ref r1), .val (.ref r2), .val (.int (2 : Int32)), .val (.ref b44), .val (.ref b48), .val (.int nm), .val (.int av50), .val (.long ((av50.toInt64) + (p2.toInt64))), .second, .val (.int xe58), .val (.ref r59), .val (.int (1 : Int32)), .val (.int (1 : Int32)), .unset] [(.int ((2 : Int32) - av50)), (.ref b48), (.ref b48)])) _
        exact k
      -- pc 227: com/example/nasute/nasute/sql/TokenCursor.peek
      obtain ⟨cq63, kq63, q63a, q63b, q63c⟩ := isOf hZ Kq62 A48
      obtain ⟨_, _, ⟨T63, L63, k63, n63⟩, -, X63, ⟨Lc63, hQ63, l63, y63, z63⟩, st63⟩ := X62.virtualBackUp hx (x := (⟨"com/example/nasute/nasute/sql/TokenCursorIsTextEndPinLaw", "peek", "(I)Lcom/example/nasute/nasute/sql/Token;"⟩ : MethodName)) (y := (⟨"com/example/nasute/nasute/sql/TokenCursor", "peek", "(I)Lcom/example/nasute/nasute/sql/Token;"⟩ : MethodName)) hown (mvT hZ (hw _ (own_g (i := 108) rfl))) (mvT hZ (hw _ (own_g (i := 109) rfl))) (mvT hZ (hw _ (own_g (i := 110) rfl))) (by decide) (mvT hZ (hw _ (own_g (i := 112) rfl))) (mvT hZ (hw _ (own_g (i := 111) rfl))) (backOf (W := 1) (rmPk2 l Z a0 hw [] b48 b44 en49 da46 kda46 r1 r2 av50 ((2 : Int32) - av50) h50 n0 O A48 Gq49_1 Gq49_2 Sg50_0 A44 Gq47_2 Gq47_1 Gq47_3 Gq1_0 Gq2_0 (Nat.ne_of_lt lt_r1_en49) (Nat.ne_of_lt lt_r2_en49)) hZ (hw _ (own_g (i := 113) rfl)) (hw _ (own_g (i := 90) rfl)) (by decide) (by decide)) q63a q63c (g := (mkF m 227 #[.val (.int p1), .val (.int p2), .val (.int p3), .val (.int p4), .val (.int p5), .val (.int p6), .val (.ref r1), .val (.ref r2), .val (.int (2 : Int32)), .val (.ref b44), .val (.ref b48), .val (.int nm), .val (.int av50), .val (.long ((av50.toInt64) + (p2.toInt64))), .second, .val (.int xe58), .val (.ref r59), .val (.int (1 : Int32)), .val (.int (1 : Int32)), .unset] [(.int ((2 : Int32) - av50)), (.ref b48), (.ref b48)])) rfl (by rw [hml]; rfl) (Steps.refl _) (argsL := [(.int ((2 : Int32) - av50))]) (rest := [(.ref b48)]) (lenOf pd_15 rfl) rfl (by show 2 * 0 + _ ≤ _; exact Nat.le_of_eq rfl) (hb hby at_227) (fun _ hWm => ⟨rfl, Kq62, (by decide : 12 + 0 ≤ _), (by decide : 42 + 0 ≤ _)⟩)
      dsimp only [Pt.U, Pt.locs, Pt.cells, Pt.slots] at X63 l63 y63 z63 st63 hQ63
      subst l63 y63 z63
      obtain ⟨r63, rfl, Nq63, Kq63, cq63_0, cq63_1⟩ := hQ63
      replace N := Fr.app N Nq63
      refine own_go (B := T63.setTop (mkF m 230 #[.val (.int p1), .val (.int p2), .val (.int p3), .val (.int p4), .val (.int p5), .val (.int p6), .val (.ref r1), .val (.ref r2), .val (.int (2 : Int32)), .val (.ref b44), .val (.ref b48), .val (.int nm), .val (.int av50), .val (.long ((av50.toInt64) + (p2.toInt64))), .second, .val (.int xe58), .val (.ref r59), .val (.int (1 : Int32)), .val (.int (1 : Int32)), .unset] [(.ref r63), (.ref b48)])) (fun t k => st63.trans k) ?_
      -- pc 230: com/example/nasute/nasute/sql/TokenCursor.isTextEnd
      obtain ⟨cq64, kq64, q64a, q64b, q64c⟩ := isOf hZ Kq63 A48
      obtain ⟨_, _, ⟨T64, L64, k64, n64⟩, -, X64, ⟨Lc64, hQ64, l64, y64, z64⟩, st64⟩ := X63.virtualBackUp hx (x := (⟨"com/example/nasute/nasute/sql/TokenCursorIsTextEndPinLaw", "isTextEnd", "(Lcom/example/nasute/nasute/sql/Token;)Z"⟩ : MethodName)) (y := (⟨"com/example/nasute/nasute/sql/TokenCursor", "isTextEnd", "(Lcom/example/nasute/nasute/sql/Token;)Z"⟩ : MethodName)) hown (mvT hZ (hw _ (own_g (i := 127) rfl))) (mvT hZ (hw _ (own_g (i := 128) rfl))) (mvT hZ (hw _ (own_g (i := 129) rfl))) (by decide) (mvT hZ (hw _ (own_g (i := 131) rfl))) (mvT hZ (hw _ (own_g (i := 130) rfl))) (backOf (W := 0) (rmTex l Z a0 hw [] b48 r63 en49 h50 n0 O Gq49_2) hZ (hw _ (own_g (i := 132) rfl)) (hw _ (own_g (i := 90) rfl)) (by decide) (by decide)) q64a q64c (g := (mkF m 230 #[.val (.int p1), .val (.int p2), .val (.int p3), .val (.int p4), .val (.int p5), .val (.int p6), .val (.ref r1), .val (.ref r2), .val (.int (2 : Int32)), .val (.ref b44), .val (.ref b48), .val (.int nm), .val (.int av50), .val (.long ((av50.toInt64) + (p2.toInt64))), .second, .val (.int xe58), .val (.ref r59), .val (.int (1 : Int32)), .val (.int (1 : Int32)), .unset] [(.ref r63), (.ref b48)])) rfl (by rw [hml]; rfl) (Steps.refl _) (argsL := [(.ref r63)]) (rest := []) (lenOf pd_18 rfl) rfl (by show 2 * 0 + _ ≤ _; exact Nat.le_of_eq rfl) (hb hby at_230) (fun _ hWm => ⟨rfl, Kq63, (by decide : 12 + 0 ≤ _), (by decide : 42 + 0 ≤ _)⟩)
      dsimp only [Pt.U, Pt.locs, Pt.cells, Pt.slots] at X64 l64 y64 z64 st64 hQ64
      subst l64 y64 z64
      obtain ⟨vv64, rfl, Nq64, Kq64, cq64_0, cq64_1⟩ := hQ64
      replace N := Fr.app N Nq64
      refine own_go (B := T64.setTop (mkF m 233 #[.val (.int p1), .val (.int p2), .val (.int p3), .val (.int p4), .val (.int p5), .val (.int p6), .val (.ref r1), .val (.ref r2), .val (.int (2 : Int32)), .val (.ref b44), .val (.ref b48), .val (.int nm), .val (.int av50), .val (.long ((av50.toInt64) + (p2.toInt64))), .second, .val (.int xe58), .val (.ref r59), .val (.int (1 : Int32)), .val (.int (1 : Int32)), .unset] [(.int vv64)])) (fun t k => st64.trans k) ?_
      refine own_go (B := T64.setTop (mkF m 255 #[.val (.int p1), .val (.int p2), .val (.int p3), .val (.int p4), .val (.int p5), .val (.int p6), .val (.ref r1), .val (.ref r2), .val (.int (2 : Int32)), .val (.ref b44), .val (.ref b48), .val (.int nm), .val (.int av50), .val (.long ((av50.toInt64) + (p2.toInt64))), .second, .val (.int xe58), .val (.ref r59), .val (.int (1 : Int32)), .val (.int (1 : Int32)), .val (.int vv64)] [(.int (1 : Int32))])) (fun t k => ?_) ?_
      · show Steps p.tables e below (T64.setTop (mkF m 233 #[.val (.int p1), .val (.int p2), .val (.int p3), .val (.int p4), .val (.int p5), .val (.int p6), .val (.ref r1), .val (.ref r2), .val (.int (2 : Int32)), .val (.ref b44), .val (.ref b48), .val (.int nm), .val (.int av50), .val (.long ((av50.toInt64) + (p2.toInt64))), .second, .val (.int xe58), .val (.ref r59), .val (.int (1 : Int32)), .val (.int (1 : Int32)), .unset] [(.int vv64)])) _
        refine XS.istore X64.here hx rfl (hb hby at_233) rfl (l' := #[.val (.int p1), .val (.int p2), .val (.int p3), .val (.int p4), .val (.int p5), .val (.int p6), .val (.ref r1), .val (.ref r2), .val (.int (2 : Int32)), .val (.ref b44), .val (.ref b48), .val (.int nm), .val (.int av50), .val (.long ((av50.toInt64) + (p2.toInt64))), .second, .val (.int xe58), .val (.ref r59), .val (.int (1 : Int32)), .val (.int (1 : Int32)), .val (.int vv64)]) rfl ?_
        show Steps p.tables e below (T64.setTop (mkF m 235 #[.val (.int p1), .val (.int p2), .val (.int p3), .val (.int p4), .val (.int p5), .val (.int p6), .val (.ref r1), .val (.ref r2), .val (.int (2 : Int32)), .val (.ref b44), .val (.ref b48), .val (.int nm), .val (.int av50), .val (.long ((av50.toInt64) + (p2.toInt64))), .second, .val (.int xe58), .val (.ref r59), .val (.int (1 : Int32)), .val (.int (1 : Int32)), .val (.int vv64)] [])) _
        refine XS.iload X64.here hx rfl (hb hby at_235) rfl ?_
        show Steps p.tables e below (T64.setTop (mkF m 237 #[.val (.int p1), .val (.int p2), .val (.int p3), .val (.int p4), .val (.int p5), .val (.int p6), .val (.ref r1), .val (.ref r2), .val (.int (2 : Int32)), .val (.ref b44), .val (.ref b48), .val (.int nm), .val (.int av50), .val (.long ((av50.toInt64) + (p2.toInt64))), .second, .val (.int xe58), .val (.ref r59), .val (.int (1 : Int32)), .val (.int (1 : Int32)), .val (.int vv64)] [(.int (1 : Int32))])) _
        refine XS.ifNo X64.here hx rfl (hb hby at_237) rfl ((if0 _ _).trans (feq (by decide)).1) ?_
        show Steps p.tables e below (T64.setTop (mkF m 240 #[.val (.int p1), .val (.int p2), .val (.int p3), .val (.int p4), .val (.int p5), .val (.int p6), .val (.ref r1), .val (.ref r2), .val (.int (2 : Int32)), .val (.ref b44), .val (.ref b48), .val (.int nm), .val (.int av50), .val (.long ((av50.toInt64) + (p2.toInt64))), .second, .val (.int xe58), .val (.ref r59), .val (.int (1 : Int32)), .val (.int (1 : Int32)), .val (.int vv64)] [])) _
        refine XS.iload X64.here hx rfl (hb hby at_240) rfl ?_
        show Steps p.tables e below (T64.setTop (mkF m 242 #[.val (.int p1), .val (.int p2), .val (.int p3), .val (.int p4), .val (.int p5), .val (.int p6), .val (.ref r1), .val (.ref r2), .val (.int (2 : Int32)), .val (.ref b44), .val (.ref b48), .val (.int nm), .val (.int av50), .val (.long ((av50.toInt64) + (p2.toInt64))), .second, .val (.int xe58), .val (.ref r59), .val (.int (1 : Int32)), .val (.int (1 : Int32)), .val (.int vv64)] [(.int (1 : Int32))])) _
        refine XS.ifNo X64.here hx rfl (hb hby at_242) rfl ((if0 _ _).trans (feq (by decide)).1) ?_
        show Steps p.tables e below (T64.setTop (mkF m 245 #[.val (.int p1), .val (.int p2), .val (.int p3), .val (.int p4), .val (.int p5), .val (.int p6), .val (.ref r1), .val (.ref r2), .val (.int (2 : Int32)), .val (.ref b44), .val (.ref b48), .val (.int nm), .val (.int av50), .val (.long ((av50.toInt64) + (p2.toInt64))), .second, .val (.int xe58), .val (.ref r59), .val (.int (1 : Int32)), .val (.int (1 : Int32)), .val (.int vv64)] [])) _
        refine XS.iload X64.here hx rfl (hb hby at_245) rfl ?_
        show Steps p.tables e below (T64.setTop (mkF m 247 #[.val (.int p1), .val (.int p2), .val (.int p3), .val (.int p4), .val (.int p5), .val (.int p6), .val (.ref r1), .val (.ref r2), .val (.int (2 : Int32)), .val (.ref b44), .val (.ref b48), .val (.int nm), .val (.int av50), .val (.long ((av50.toInt64) + (p2.toInt64))), .second, .val (.int xe58), .val (.ref r59), .val (.int (1 : Int32)), .val (.int (1 : Int32)), .val (.int vv64)] [(.int vv64)])) _
        refine XS.ifNo X64.here hx rfl (hb hby at_247) rfl ((if0 _ _).trans (feq (fun z => absurd ((cq64_0 (cq63_1 own_out)).symm.trans z) (by decide))).1) ?_
        show Steps p.tables e below (T64.setTop (mkF m 250 #[.val (.int p1), .val (.int p2), .val (.int p3), .val (.int p4), .val (.int p5), .val (.int p6), .val (.ref r1), .val (.ref r2), .val (.int (2 : Int32)), .val (.ref b44), .val (.ref b48), .val (.int nm), .val (.int av50), .val (.long ((av50.toInt64) + (p2.toInt64))), .second, .val (.int xe58), .val (.ref r59), .val (.int (1 : Int32)), .val (.int (1 : Int32)), .val (.int vv64)] [])) _
        refine XS.iconst X64.here hx rfl (hb hby at_250) ?_
        show Steps p.tables e below (T64.setTop (mkF m 251 #[.val (.int p1), .val (.int p2), .val (.int p3), .val (.int p4), .val (.int p5), .val (.int p6), .val (.ref r1), .val (.ref r2), .val (.int (2 : Int32)), .val (.ref b44), .val (.ref b48), .val (.int nm), .val (.int av50), .val (.long ((av50.toInt64) + (p2.toInt64))), .second, .val (.int xe58), .val (.ref r59), .val (.int (1 : Int32)), .val (.int (1 : Int32)), .val (.int vv64)] [(.int (1 : Int32))])) _
        refine XS.goto X64.here hx rfl (pc0 := 251) (pc' := 255) rfl (hb hby at_251) (by decide) (by decide) ?_
        show Steps p.tables e below (T64.setTop (mkF m 255 #[.val (.int p1), .val (.int p2), .val (.int p3), .val (.int p4), .val (.int p5), .val (.int p6), .val (.ref r1), .val (.ref r2), .val (.int (2 : Int32)), .val (.ref b44), .val (.ref b48), .val (.int nm), .val (.int av50), .val (.long ((av50.toInt64) + (p2.toInt64))), .second, .val (.int xe58), .val (.ref r59), .val (.int (1 : Int32)), .val (.int (1 : Int32)), .val (.int vv64)] [(.int (1 : Int32))])) _
        exact k
      obtain ⟨fs, hr, hrun, hended, hEnd⟩ := X64.leaveW hS (by rw [Kq64]; exact hk) (v := some (.int (1 : Int32))) (fun h => by rw [Bd.returns] at h; cases h)
      refine ⟨_, _, retN X64 hx (t := .boolean) Bd.returns (by simp) (hb hby at_255) hr, hfin _ _ ⟨hrun, hended, _, _, rfl, ?_, hEnd.1, hEnd.2.1, hEnd.2.2.1, hEnd.2.2.2.mono (by decide) (by decide)⟩⟩
      show Q0 Z p1 p2 p3 p4 p5 p6 w0 w1 w2 w3 w4 w5 zc dz kz h0 n0 _ T64.heap _
      rw [Kq64]
      exact ⟨rfl, N⟩
set_option maxRecDepth 65536 in
set_option maxHeartbeats 40000000 in
theorem comes_1 {Post : Tables → Env → Array Value → State → Outcome → State → Prop} (hpost : ∀ tb e args s v u, (limb_1_1.after args s (.returned v) u = true ∧ limb_1_2.after args s (.returned v) u = true ∧ True) → ReturnedEndW s (.returned v) u (Jvm.fieldLocs frame_1_writes args s ++ Jvm.arrayLocs frame_1_arrays args s ++ Jvm.staticLocs frame_1_statics s) 32 2240 → Post tb e args s (.returned v) u) :
    ArmFor flags0 classFile x code maxLocals ret World_1 tables_1 room_1 Calls_1 rest_1 Pre_1 Post := by
  intro l hfl _ _ p e ha hc hk s m args below hf hA hF happ hP
  obtain ⟨hcalls, hrest, hpre⟩ := hP
  obtain ⟨-, -, -, hnamed, -, -, -, hat⟩ := (Spec.applies_iff hf).mp happ
  obtain ⟨hg, hn⟩ := and_e (Cond.before_iff.mp (show (Jvm.Cond.and given_1 narrow_1).before args s = true from hpre))
  obtain ⟨gc, gr0⟩ := and_e hg
  obtain ⟨gi0, gr1⟩ := and_e gr0
  obtain ⟨gi1, gr2⟩ := and_e gr1
  obtain ⟨gi2, gr3⟩ := and_e gr2
  obtain ⟨gi3, gr4⟩ := and_e gr3
  obtain ⟨gi4, gr5⟩ := and_e gr4
  have gi5 := gr5
  obtain ⟨w0, w1, w2, w3, w4, w5, rfl⟩ : ∃ w0 w1 w2 w3 w4 w5 : Value, args = #[w0, w1, w2, w3, w4, w5] := by
    have hs : args.size = 6 := by simpa [Cond.value, given_1] using gc
    obtain ⟨L⟩ := args
    match L, hs with
    | [w0, w1, w2, w3, w4, w5], _ => exact ⟨w0, w1, w2, w3, w4, w5, rfl⟩
  have hw := fun d (hd : d ∈ tables_1) => atoms_spec (ws := Jvm.Cond.code x code maxLocals ret :: tables_1) hat d (List.mem_cons_of_mem _ hd)
  have hfit : Fit s := fun {y c} hc i hi => by
    obtain ⟨ha, rfl⟩ := Array.getElem?_eq_some_iff.mp hc
    have q := List.all_eq_true.mp ((Array.all_eq_true_iff_forall_mem.mp hF) _ (Array.getElem_mem ha)) i (List.mem_range.mpr hi)
    simpa [Array.getElem?_eq_getElem hi] using q
  obtain ⟨i0, ei0⟩ := is_v gi0
  obtain rfl : w0 = (.int i0) := Option.some.inj ei0
  obtain ⟨i1, ei1⟩ := is_v gi1
  obtain rfl : w1 = (.int i1) := Option.some.inj ei1
  obtain ⟨i2, ei2⟩ := is_v gi2
  obtain rfl : w2 = (.int i2) := Option.some.inj ei2
  obtain ⟨i3, ei3⟩ := is_v gi3
  obtain rfl : w3 = (.int i3) := Option.some.inj ei3
  obtain ⟨i4, ei4⟩ := is_v gi4
  obtain rfl : w4 = (.int i4) := Option.some.inj ei4
  obtain ⟨i5, ei5⟩ := is_v gi5
  obtain rfl : w5 = (.int i5) := Option.some.inj ei5
  obtain ⟨hsets, hown0⟩ := atoms_of _ (rest_1_c_eq ▸ (show rest_1_c.before _ s = true from hrest))
  obtain ⟨nn1, nn2⟩ := and_e hn
  obtain ⟨nn3, nn4⟩ := and_e nn2
  obtain ⟨nn5, nn6⟩ := and_e nn4
  obtain ⟨nn7, nn8⟩ := and_e nn6
  obtain ⟨nn9, nn10⟩ := and_e nn8
  obtain ⟨w3, ev3⟩ := exa_v nn1
  have S_3 := Sta.start ev3 (Or.inr ⟨(hw _ (own_g (i := 37) rfl)), (hw _ (own_g (i := 38) rfl))⟩)
  have E_3 := Exa.start ev3 nn1
  obtain ⟨w0, ev0⟩ := exa_v nn3
  have S_0 := Sta.start ev0 (Or.inr ⟨(hw _ (own_g (i := 37) rfl)), (hw _ (own_g (i := 57) rfl))⟩)
  have E_0 := Exa.start ev0 nn3
  obtain ⟨w5, ev5⟩ := exa_v nn5
  have S_5 := Sta.start ev5 (Or.inr ⟨(hw _ (own_g (i := 37) rfl)), (hw _ (own_g (i := 97) rfl))⟩)
  have E_5 := Exa.start ev5 nn5
  obtain ⟨w2, ev2⟩ := exa_v nn7
  have S_2 := Sta.start ev2 (Or.inr ⟨(hw _ (own_g (i := 37) rfl)), (hw _ (own_g (i := 134) rfl))⟩)
  have E_2 := Exa.start ev2 nn7
  obtain ⟨w1, ev1⟩ := exa_v nn9
  have S_1 := Sta.start ev1 (Or.inr ⟨(hw _ (own_g (i := 37) rfl)), (hw _ (own_g (i := 137) rfl))⟩)
  have E_1 := Exa.start ev1 nn9
  obtain ⟨w4, ev4⟩ := exa_v nn10
  have S_4 := Sta.start ev4 (Or.inr ⟨(hw _ (own_g (i := 37) rfl)), (hw _ (own_g (i := 206) rfl))⟩)
  have E_4 := Exa.start ev4 nn10
  obtain ⟨zc, ezc⟩ := is_v (Cond.before_iff.mp (hsets _ (own_g (i := 1) rfl)))
  have S_C := Sta.start ezc (Or.inl (hsets _ (own_g (i := 0) rfl)))
  have hcs : ¬ zc = (0 : Int32) := by
    have q := not_v (Cond.before_iff.mp (hsets _ (own_g (i := 2) rfl)))
    have r := gotF (Jvm.Cond.eq_ints ezc (Term.int_eval 0)) q
    exact r
  have hAz := Cond.before_iff.mp (hsets _ (own_g (i := 15) rfl))
  obtain ⟨dz, ez⟩ := arr_v hAz
  have S_D := Sta.start ez (Or.inr ⟨(hw _ (own_g (i := 60) rfl)), (hsets _ (own_g (i := 11) rfl))⟩)
  obtain ⟨kz, V_Z⟩ := own_emptyArv (dv := .null) hfit ez hAz (eqv_i (Term.int_eval 0) (Cond.before_iff.mp (hsets _ (own_g (i := 17) rfl))))
  obtain ⟨n, o, h1, h2, h3, _, L, rfl, ⟨rfl, N⟩, hq⟩ := rm0 l s _ hw tables_1 i0 i1 i2 i3 i4 i5 w0 w1 w2 w3 w4 w5 zc dz kz s.heap s.heap.size (Old.start s) S_0 S_1 S_2 S_3 S_4 S_5 S_C S_D V_Z hcs p e ha hc hk s m _ below hf ((Spec.applies_iff_loose hf).mp happ).1 ⟨rfl, State.Warmed39.refl s, rfl⟩ trivial
  refine ⟨n, _, h1, h2, h3, hpost _ _ _ _ _ _ ⟨Cond.after_iff.mpr rfl, Cond.after_iff.mpr (eq_i res_at (Term.int_eval (1)) rfl), trivial⟩ ⟨hq.1, hq.2.1, hq.2.2.1, (hq.2.2.2.sift fun y hy => Or.inr (N y hy)).mono (by decide) (by decide)⟩⟩
theorem main_1_1 : Claimed_1_1 := comes_1 fun _ _ _ _ _ _ h hF => ⟨h.1, hF⟩
theorem main_1_2 : Claimed_1_2 := comes_1 fun _ _ _ _ _ _ h hF => ⟨h.2.1, hF⟩
end Jvm.Pilot.@@N@@
namespace Jvm.Pilot.@@N@@
open Jvm Jvm.ClassFile Sem Op Lib Jvm.Free Jvm.Stand Jvm.Pilot.@@N@@.Jvm.D
/-! MADE BY PROGRAM (witnessworld.py) out of the Statement's table words and the real class files: 32 classes; the members and pool entries that the words name. The judged class is class 2, her method 1. -/
namespace start1
open Jvm.ClassFile
def u (s : String) : CpInfo := .utf8 (stringToUtf16 s)
/-- a pool by its gaps: so many unusable entries, then the entry; so many at the end -/
def gap : Nat → List CpInfo → List CpInfo
  | 0, r => r
  | n + 1, r => .unusable :: gap n r
def poolList (es : List (Nat × CpInfo)) (last : Nat) : List CpInfo := es.foldr (fun e r => gap e.1 (e.2 :: r)) (gap last [])
def pool (es : List (Nat × CpInfo)) (last : Nat) : Array CpInfo := ⟨poolList es last⟩
def fileOf (pool : Array CpInfo) (this : Nat) (attrs : Array Attribute := #[]) (ms : Array MethodInfo := #[]) (fl : Nat := 33) (sup : Nat := 0) (ifs : Array Nat := #[]) (fds : Array FieldInfo := #[]) : ClassFile where
  minorVersion := 0
  majorVersion := 65
  constantPool := pool
  accessFlags := fl
  thisClass := this
  superClass := sup
  interfaces := ifs
  fields := fds
  methods := ms
  attributes := attrs
def plain (name : String) (sup : Option ClassId) : Class where
  name := name
  kind := .ordinary
  loader := none
  accessFlags := 33
  super := sup
  interfaces := #[]
  cf := none
  fields := #[]
  methods := #[]
  instanceTypes := #[]
  staticTypes := #[]
  resolved := #[]
  callSites := []
  init := .initialized
  statics := none
  mirror := none

def pool0 : Array CpInfo := pool [(5, u "<init>"), (0, u "()V"), (1, .class_ 10), (1, u "java/lang/Object")] 113

def k0c0 : Code := { maxStack := 0, maxLocals := 1, code := object_method_1_code, exceptionTable := #[], attributes := #[] }
def k0m0 : Method := { name := "<init>", desc := "()V", sig := { parameters := [], returnType := none }, accessFlags := 1, code := some k0c0 }
/-- java/lang/Object -/
def k0 : Class := { plain "java/lang/Object" none with
  accessFlags := 33
  interfaces := #[]
  cf := some (fileOf pool0 8 #[] #[{ accessFlags := 1, nameIndex := 5, descriptorIndex := 6, attributes := #[] }] 33 0 #[] #[])
  fields := #[]
  methods := #[k0m0]
  instanceTypes := #[]
  staticTypes := #[]
  resolved := Array.replicate 124 none
  statics := none }

def pool1 : Array CpInfo := pool [(1, .methodref 2 3), (0, .class_ 4), (0, .nameAndType 5 6), (0, u "java/lang/Object"), (0, u "<init>"), (0, u "()V"), (0, .fieldref 8 9), (0, .class_ 10), (0, .nameAndType 11 12), (0, u "com/example/nasute/nasute/sql/TokenCursor"), (0, u "tokens"), (0, u "Ljava/util/List;"), (0, .class_ 14), (0, u "com/example/nasute/nasute/sql/Token"), (0, .fieldref 16 17), (0, .class_ 18), (0, .nameAndType 19 20), (0, u "com/example/nasute/nasute/sql/Token$Type"), (0, u "SYMBOL"), (0, u "Lcom/example/nasute/nasute/sql/Token$Type;"), (0, .string 22), (0, u ""), (0, .methodref 13 24), (0, .nameAndType 5 25), (0, u "(Lcom/example/nasute/nasute/sql/Token$Type;Ljava/lang/String;II)V"), (0, .fieldref 8 27), (0, .nameAndType 28 29), (0, u "end"), (0, u "Lcom/example/nasute/nasute/sql/Token;"), (0, .methodref 8 31), (0, .nameAndType 32 33), (0, u "peek"), (0, u "(I)Lcom/example/nasute/nasute/sql/Token;"), (0, .fieldref 8 35), (0, .nameAndType 36 37), (0, u "at"), (0, u "I"), (0, .interfaceMethodref 39 40), (0, .class_ 41), (0, .nameAndType 42 43), (0, u "java/util/List"), (0, u "size"), (0, u "()I"), (0, .interfaceMethodref 39 45), (0, .nameAndType 46 47), (0, u "get"), (0, u "(I)Ljava/lang/Object;"), (0, .methodref 8 49), (0, .nameAndType 32 50), (0, u "()Lcom/example/nasute/nasute/sql/Token;"), (76, u "next"), (7, u "(Lcom/example/nasute/nasute/sql/Token;)Z"), (28, u "(Ljava/util/List;I)V"), (11, u "isTextEnd")] 32

def k1c0 : Code := { maxStack := 7, maxLocals := 3, code := prog_92_method_1_code, exceptionTable := #[], attributes := #[] }
def k1m0 : Method := { name := "<init>", desc := "(Ljava/util/List;I)V", sig := { parameters := [(.object "java/util/List"), .int], returnType := none }, accessFlags := 0, code := some k1c0 }
def k1c1 : Code := { maxStack := 2, maxLocals := 1, code := prog_92_method_2_code, exceptionTable := #[], attributes := #[] }
def k1m1 : Method := { name := "peek", desc := "()Lcom/example/nasute/nasute/sql/Token;", sig := { parameters := [], returnType := some (.object "com/example/nasute/nasute/sql/Token") }, accessFlags := 0, code := some k1c1 }
def k1c2 : Code := { maxStack := 2, maxLocals := 3, code := prog_92_method_3_code, exceptionTable := #[], attributes := #[] }
def k1m2 : Method := { name := "peek", desc := "(I)Lcom/example/nasute/nasute/sql/Token;", sig := { parameters := [.int], returnType := some (.object "com/example/nasute/nasute/sql/Token") }, accessFlags := 0, code := some k1c2 }
def k1c3 : Code := { maxStack := 3, maxLocals := 2, code := prog_92_method_4_code, exceptionTable := #[], attributes := #[] }
def k1m3 : Method := { name := "next", desc := "()Lcom/example/nasute/nasute/sql/Token;", sig := { parameters := [], returnType := some (.object "com/example/nasute/nasute/sql/Token") }, accessFlags := 0, code := some k1c3 }
def k1c4 : Code := { maxStack := 2, maxLocals := 2, code := prog_92_method_13_code, exceptionTable := #[], attributes := #[] }
def k1m4 : Method := { name := "isTextEnd", desc := "(Lcom/example/nasute/nasute/sql/Token;)Z", sig := { parameters := [(.object "com/example/nasute/nasute/sql/Token")], returnType := some .boolean }, accessFlags := 0, code := some k1c4 }
/-- com/example/nasute/nasute/sql/TokenCursor -/
def k1 : Class := { plain "com/example/nasute/nasute/sql/TokenCursor" (some 0) with
  accessFlags := 1056
  interfaces := #[]
  cf := some (fileOf pool1 8 #[] #[{ accessFlags := 0, nameIndex := 5, descriptorIndex := 164, attributes := #[] }, { accessFlags := 0, nameIndex := 32, descriptorIndex := 50, attributes := #[] }, { accessFlags := 0, nameIndex := 32, descriptorIndex := 33, attributes := #[] }, { accessFlags := 0, nameIndex := 127, descriptorIndex := 50, attributes := #[] }, { accessFlags := 0, nameIndex := 176, descriptorIndex := 135, attributes := #[] }] 1056 2 #[] #[{ accessFlags := 18, nameIndex := 11, descriptorIndex := 12, attributes := #[] }, { accessFlags := 18, nameIndex := 28, descriptorIndex := 29, attributes := #[] }, { accessFlags := 2, nameIndex := 36, descriptorIndex := 37, attributes := #[] }])
  fields := #[{ name := "tokens", type := (.object "java/util/List"), accessFlags := 18, slot := 0, constantValue := 0 }, { name := "end", type := (.object "com/example/nasute/nasute/sql/Token"), accessFlags := 18, slot := 1, constantValue := 0 }, { name := "at", type := .int, accessFlags := 2, slot := 2, constantValue := 0 }]
  methods := #[k1m0, k1m1, k1m2, k1m3, k1m4]
  instanceTypes := #[(.object "java/util/List"), (.object "com/example/nasute/nasute/sql/Token"), .int]
  staticTypes := #[]
  resolved := Array.replicate 209 none
  statics := none }

def pool2 : Array CpInfo := pool [(1, .methodref 2 3), (0, .class_ 4), (0, .nameAndType 5 6), (0, u "com/example/nasute/nasute/sql/TokenCursor"), (0, u "<init>"), (0, u "(Ljava/util/List;I)V"), (0, .methodref 8 9), (0, .class_ 10), (0, .nameAndType 11 12), (0, u "com/example/nasute/nasute/sql/TokenCursorIsTextEndPinLaw"), (0, u "token"), (0, u "(II)Lcom/example/nasute/nasute/sql/Token;"), (0, .class_ 14), (0, u "java/util/ArrayList"), (0, .methodref 13 16), (0, .nameAndType 5 17), (0, u "()V"), (0, .interfaceMethodref 19 20), (0, .class_ 21), (0, .nameAndType 22 23), (0, u "java/util/List"), (0, u "add"), (0, u "(Ljava/lang/Object;)Z"), (0, .methodref 8 3), (0, .methodref 8 26), (0, .nameAndType 27 28), (0, u "next"), (0, u "()Lcom/example/nasute/nasute/sql/Token;"), (0, .methodref 30 31), (0, .class_ 32), (0, .nameAndType 33 34), (0, u "java/lang/Math"), (0, u "min"), (0, u "(II)I"), (0, .methodref 8 36), (0, .nameAndType 37 38), (0, u "peek"), (0, u "(I)Lcom/example/nasute/nasute/sql/Token;"), (0, .methodref 8 40), (0, .nameAndType 41 42), (0, u "isTextEnd"), (0, u "(Lcom/example/nasute/nasute/sql/Token;)Z"), (0, .string 44), (0, u ""), (0, .methodref 46 47), (0, .class_ 48), (0, .nameAndType 49 50), (0, u "java/lang/String"), (0, u "valueOf"), (0, u "(C)Ljava/lang/String;"), (0, .class_ 52), (0, u "com/example/nasute/nasute/sql/Token"), (0, .methodref 8 54), (0, .nameAndType 55 56), (0, u "type"), (0, u "(I)Lcom/example/nasute/nasute/sql/Token$Type;"), (0, .methodref 51 58), (0, .nameAndType 5 59), (0, u "(Lcom/example/nasute/nasute/sql/Token$Type;Ljava/lang/String;II)V"), (0, .fieldref 61 62), (0, .class_ 63), (0, .nameAndType 64 65), (0, u "com/example/nasute/nasute/sql/Token$Type"), (0, u "WORD"), (0, u "Lcom/example/nasute/nasute/sql/Token$Type;"), (0, .fieldref 61 67), (0, .nameAndType 68 65), (0, u "QUOTED_NAME"), (0, .fieldref 61 70), (0, .nameAndType 71 65), (0, u "STRING"), (0, .fieldref 61 73), (0, .nameAndType 74 65), (0, u "NUMBER"), (0, .fieldref 61 76), (0, .nameAndType 77 65), (0, u "VARIABLE"), (0, .fieldref 61 79), (0, .nameAndType 80 65), (0, u "SYMBOL"), (4, u "law"), (0, u "(IIIIII)Z")] 5

def k2c0 : Code := { maxStack := 3, maxLocals := 3, code := method_1_code, exceptionTable := #[], attributes := #[] }
def k2m0 : Method := { name := "<init>", desc := "(Ljava/util/List;I)V", sig := { parameters := [(.object "java/util/List"), .int], returnType := none }, accessFlags := 2, code := some k2c0 }
def k2c1 : Code := { maxStack := 4, maxLocals := 20, code := code, exceptionTable := #[], attributes := #[] }
def k2m1 : Method := { name := "law", desc := "(IIIIII)Z", sig := { parameters := [.int, .int, .int, .int, .int, .int], returnType := some .boolean }, accessFlags := 9, code := some k2c1 }
def k2c2 : Code := { maxStack := 7, maxLocals := 4, code := method_3_code, exceptionTable := #[], attributes := #[] }
def k2m2 : Method := { name := "token", desc := "(II)Lcom/example/nasute/nasute/sql/Token;", sig := { parameters := [.int, .int], returnType := some (.object "com/example/nasute/nasute/sql/Token") }, accessFlags := 10, code := some k2c2 }
def k2c3 : Code := { maxStack := 2, maxLocals := 2, code := method_4_code, exceptionTable := #[], attributes := #[] }
def k2m3 : Method := { name := "type", desc := "(I)Lcom/example/nasute/nasute/sql/Token$Type;", sig := { parameters := [.int], returnType := some (.object "com/example/nasute/nasute/sql/Token$Type") }, accessFlags := 10, code := some k2c3 }
/-- com/example/nasute/nasute/sql/TokenCursorIsTextEndPinLaw -/
def k2 : Class := { plain "com/example/nasute/nasute/sql/TokenCursorIsTextEndPinLaw" (some 1) with
  accessFlags := 49
  interfaces := #[]
  cf := some (fileOf pool2 8 #[] #[{ accessFlags := 2, nameIndex := 5, descriptorIndex := 6, attributes := #[] }, { accessFlags := 9, nameIndex := 85, descriptorIndex := 86, attributes := #[] }, { accessFlags := 10, nameIndex := 11, descriptorIndex := 12, attributes := #[] }, { accessFlags := 10, nameIndex := 55, descriptorIndex := 56, attributes := #[] }] 49 2 #[] #[])
  fields := #[]
  methods := #[k2m0, k2m1, k2m2, k2m3]
  instanceTypes := #[(.object "java/util/List"), (.object "com/example/nasute/nasute/sql/Token"), .int]
  staticTypes := #[]
  resolved := Array.replicate 92 none
  statics := none }

def pool3 : Array CpInfo := pool [(1, .class_ 2), (0, u "java/io/Serializable"), (0, .class_ 4), (0, u "java/lang/Object")] 2

/-- java/io/Serializable -/
def k3 : Class := { plain "java/io/Serializable" (some 0) with
  accessFlags := 1537
  interfaces := #[]
  cf := some (fileOf pool3 1 #[] #[] 1537 3 #[] #[])
  fields := #[]
  methods := #[]
  instanceTypes := #[]
  staticTypes := #[]
  resolved := Array.replicate 7 none
  statics := none }

def pool4 : Array CpInfo := pool [(1, .class_ 2), (0, u "java/lang/Comparable"), (0, .class_ 4), (0, u "java/lang/Object")] 7

/-- java/lang/Comparable -/
def k4 : Class := { plain "java/lang/Comparable" (some 0) with
  accessFlags := 1537
  interfaces := #[]
  cf := some (fileOf pool4 1 #[] #[] 1537 3 #[] #[])
  fields := #[]
  methods := #[]
  instanceTypes := #[]
  staticTypes := #[]
  resolved := Array.replicate 12 none
  statics := none }

def pool5 : Array CpInfo := pool [(2, .class_ 4), (1, u "java/lang/CharSequence"), (42, .class_ 48), (0, u "java/lang/CharSequence$1CodePointIterator"), (10, .class_ 60), (0, u "java/lang/CharSequence$1CharIterator"), (5, .class_ 67), (0, u "java/lang/Object")] 63

/-- java/lang/CharSequence -/
def k5 : Class := { plain "java/lang/CharSequence" (some 0) with
  accessFlags := 1537
  interfaces := #[]
  cf := some (fileOf pool5 2 #[.nestMembers #[47, 59]] #[] 1537 66 #[] #[])
  fields := #[]
  methods := #[]
  instanceTypes := #[]
  staticTypes := #[]
  resolved := Array.replicate 131 none
  statics := none }

def pool6 : Array CpInfo := pool [(1, .class_ 2), (0, u "java/lang/constant/Constable"), (0, .class_ 4), (0, u "java/lang/Object")] 6

/-- java/lang/constant/Constable -/
def k6 : Class := { plain "java/lang/constant/Constable" (some 0) with
  accessFlags := 1537
  interfaces := #[]
  cf := some (fileOf pool6 1 #[] #[] 1537 3 #[] #[])
  fields := #[]
  methods := #[]
  instanceTypes := #[]
  staticTypes := #[]
  resolved := Array.replicate 11 none
  statics := none }

def pool7 : Array CpInfo := pool [(1, .class_ 2), (0, u "java/lang/constant/ConstantDesc"), (0, .class_ 4), (0, u "java/lang/Object")] 32

/-- java/lang/constant/ConstantDesc -/
def k7 : Class := { plain "java/lang/constant/ConstantDesc" (some 0) with
  accessFlags := 1537
  interfaces := #[]
  cf := some (fileOf pool7 1 #[] #[] 1537 3 #[] #[])
  fields := #[]
  methods := #[]
  instanceTypes := #[]
  staticTypes := #[]
  resolved := Array.replicate 37 none
  statics := none }

def pool8 : Array CpInfo := pool [(1, .methodref 2 3), (0, .class_ 4), (0, .nameAndType 5 6), (0, u "java/lang/Object"), (0, u "<init>"), (0, u "()V"), (2, .fieldref 10 11), (0, .class_ 12), (0, .nameAndType 13 14), (0, u "java/lang/String"), (0, u "value"), (0, u "[B"), (0, .fieldref 10 16), (0, .nameAndType 17 18), (0, u "coder"), (0, u "B"), (2, u "hash"), (0, u "I"), (2, u "hashIsZero"), (0, u "Z"), (11, .fieldref 10 39), (0, .nameAndType 40 26), (0, u "COMPACT_STRINGS"), (12, u "toBytes"), (53, .class_ 109), (1, u "java/lang/StringLatin1"), (99, .methodref 10 210), (0, .nameAndType 5 211), (0, u "([BB)V"), (157, u "(C)Z"), (205, .class_ 576), (0, u "java/lang/CharSequence"), (22, u "CASE_INSENSITIVE_ORDER"), (0, u "Ljava/util/Comparator;"), (181, u "valueOf"), (0, u "(C)Ljava/lang/String;"), (231, .methodref 107 1016), (0, .nameAndType 1017 369), (0, u "canEncode"), (0, .methodref 107 1019), (0, .nameAndType 53 1020), (0, u "(C)[B"), (80, u "serialPersistentFields"), (0, u "[Ljava/io/ObjectStreamField;"), (0, .class_ 1104), (0, u "java/lang/String$CaseInsensitiveComparator"), (1, .class_ 1107), (0, u "java/io/Serializable"), (0, .class_ 1109), (0, u "java/lang/Comparable"), (0, .class_ 1111), (0, u "java/lang/constant/Constable"), (0, .class_ 1113), (0, u "java/lang/constant/ConstantDesc"), (2, u "serialVersionUID"), (0, u "J"), (3, u "REPL"), (0, u "C"), (2, u "LATIN1"), (1, u "UTF16")] 323

def k8m0 : Method := { name := "<init>", desc := "()V", sig := { parameters := [], returnType := none }, accessFlags := 1, code := none }
def k8c1 : Code := { maxStack := 4, maxLocals := 1, code := jdk_42_method_139_code, exceptionTable := #[], attributes := #[] }
def k8m1 : Method := { name := "valueOf", desc := "(C)Ljava/lang/String;", sig := { parameters := [.char], returnType := some (.object "java/lang/String") }, accessFlags := 9, code := some k8c1 }
def k8c2 : Code := { maxStack := 2, maxLocals := 3, code := jdk_42_method_151_code, exceptionTable := #[], attributes := #[] }
def k8m2 : Method := { name := "<init>", desc := "([BB)V", sig := { parameters := [(.array .byte), .byte], returnType := none }, accessFlags := 0, code := some k8c2 }
/-- java/lang/String -/
def k8 : Class := { plain "java/lang/String" (some 0) with
  accessFlags := 49
  interfaces := #[3, 4, 5, 6, 7]
  cf := some (fileOf pool8 10 #[.nestMembers #[1103]] #[{ accessFlags := 1, nameIndex := 5, descriptorIndex := 6, attributes := #[] }, { accessFlags := 9, nameIndex := 782, descriptorIndex := 783, attributes := #[] }, { accessFlags := 0, nameIndex := 5, descriptorIndex := 211, attributes := #[] }] 49 2 #[1106, 1108, 575, 1110, 1112] #[{ accessFlags := 18, nameIndex := 13, descriptorIndex := 14, attributes := #[] }, { accessFlags := 18, nameIndex := 17, descriptorIndex := 18, attributes := #[] }, { accessFlags := 2, nameIndex := 21, descriptorIndex := 22, attributes := #[] }, { accessFlags := 2, nameIndex := 25, descriptorIndex := 26, attributes := #[] }, { accessFlags := 26, nameIndex := 1116, descriptorIndex := 1117, attributes := #[] }, { accessFlags := 24, nameIndex := 40, descriptorIndex := 26, attributes := #[] }, { accessFlags := 26, nameIndex := 1101, descriptorIndex := 1102, attributes := #[] }, { accessFlags := 26, nameIndex := 1121, descriptorIndex := 1122, attributes := #[] }, { accessFlags := 25, nameIndex := 599, descriptorIndex := 600, attributes := #[] }, { accessFlags := 24, nameIndex := 1125, descriptorIndex := 18, attributes := #[] }, { accessFlags := 24, nameIndex := 1127, descriptorIndex := 18, attributes := #[] }])
  fields := #[{ name := "value", type := (.array .byte), accessFlags := 18, slot := 0, constantValue := 0 }, { name := "coder", type := .byte, accessFlags := 18, slot := 1, constantValue := 0 }, { name := "hash", type := .int, accessFlags := 2, slot := 2, constantValue := 0 }, { name := "hashIsZero", type := .boolean, accessFlags := 2, slot := 3, constantValue := 0 }, { name := "serialVersionUID", type := .long, accessFlags := 26, slot := 0, constantValue := 0 }, { name := "COMPACT_STRINGS", type := .boolean, accessFlags := 24, slot := 1, constantValue := 0 }, { name := "serialPersistentFields", type := (.array (.object "java/io/ObjectStreamField")), accessFlags := 26, slot := 2, constantValue := 0 }, { name := "REPL", type := .char, accessFlags := 26, slot := 3, constantValue := 0 }, { name := "CASE_INSENSITIVE_ORDER", type := (.object "java/util/Comparator"), accessFlags := 25, slot := 4, constantValue := 0 }, { name := "LATIN1", type := .byte, accessFlags := 24, slot := 5, constantValue := 0 }, { name := "UTF16", type := .byte, accessFlags := 24, slot := 6, constantValue := 0 }]
  methods := #[k8m0, k8m1, k8m2]
  instanceTypes := #[(.array .byte), .byte, .int, .boolean]
  staticTypes := #[.long, .boolean, (.array (.object "java/io/ObjectStreamField")), .char, (.object "java/util/Comparator"), .byte, .byte]
  resolved := Array.replicate 1451 none
  statics := some 0 }

def pool9 : Array CpInfo := pool [(4, .class_ 6), (1, u "java/lang/Object"), (0, u "<init>"), (0, u "()V"), (5, .class_ 16), (1, u "java/lang/StringLatin1"), (73, u "canEncode"), (14, u "(C)Z"), (15, u "$assertionsDisabled"), (0, u "Z"), (98, .class_ 223), (1, u "java/lang/StringLatin1$LinesSpliterator"), (156, u "toBytes"), (1, u "(C)[B"), (7, .class_ 391), (0, u "java/lang/StringLatin1$CharsSpliterator")] 3

def k9m0 : Method := { name := "<init>", desc := "()V", sig := { parameters := [], returnType := none }, accessFlags := 0, code := none }
def k9c1 : Code := { maxStack := 2, maxLocals := 1, code := jdk_43_method_3_code, exceptionTable := #[], attributes := #[] }
def k9m1 : Method := { name := "canEncode", desc := "(C)Z", sig := { parameters := [.char], returnType := some .boolean }, accessFlags := 9, code := some k9c1 }
def k9c2 : Code := { maxStack := 4, maxLocals := 1, code := jdk_43_method_46_code, exceptionTable := #[], attributes := #[] }
def k9m2 : Method := { name := "toBytes", desc := "(C)[B", sig := { parameters := [.char], returnType := some (.array .byte) }, accessFlags := 9, code := some k9c2 }
/-- java/lang/StringLatin1 -/
def k9 : Class := { plain "java/lang/StringLatin1" (some 0) with
  accessFlags := 48
  interfaces := #[]
  cf := some (fileOf pool9 14 #[.nestMembers #[390, 221]] #[{ accessFlags := 0, nameIndex := 7, descriptorIndex := 8, attributes := #[] }, { accessFlags := 9, nameIndex := 90, descriptorIndex := 105, attributes := #[] }, { accessFlags := 9, nameIndex := 380, descriptorIndex := 382, attributes := #[] }] 48 4 #[] #[{ accessFlags := 4120, nameIndex := 121, descriptorIndex := 122, attributes := #[] }])
  fields := #[{ name := "$assertionsDisabled", type := .boolean, accessFlags := 4120, slot := 0, constantValue := 0 }]
  methods := #[k9m0, k9m1, k9m2]
  instanceTypes := #[]
  staticTypes := #[.boolean]
  resolved := Array.replicate 395 none
  statics := none }

def pool10 : Array CpInfo := pool [(1, .methodref 2 3), (0, .class_ 4), (0, .nameAndType 5 6), (0, u "java/lang/Object"), (0, u "<init>"), (0, u "()V"), (0, .class_ 8), (0, u "java/lang/Record")] 13

def k10c0 : Code := { maxStack := 1, maxLocals := 1, code := jdk_30_method_1_code, exceptionTable := #[], attributes := #[] }
def k10m0 : Method := { name := "<init>", desc := "()V", sig := { parameters := [], returnType := none }, accessFlags := 4, code := some k10c0 }
/-- java/lang/Record -/
def k10 : Class := { plain "java/lang/Record" (some 0) with
  accessFlags := 1057
  interfaces := #[]
  cf := some (fileOf pool10 7 #[] #[{ accessFlags := 4, nameIndex := 5, descriptorIndex := 6, attributes := #[] }] 1057 2 #[] #[])
  fields := #[]
  methods := #[k10m0]
  instanceTypes := #[]
  staticTypes := #[]
  resolved := Array.replicate 22 none
  statics := none }

def pool11 : Array CpInfo := pool [(1, .methodref 2 3), (0, .class_ 4), (0, .nameAndType 5 6), (0, u "java/lang/Record"), (0, u "<init>"), (0, u "()V"), (0, .fieldref 8 9), (0, .class_ 10), (0, .nameAndType 11 12), (0, u "com/example/nasute/nasute/sql/Token"), (0, u "type"), (0, u "Lcom/example/nasute/nasute/sql/Token$Type;"), (0, .fieldref 8 14), (0, .nameAndType 15 16), (0, u "value"), (0, u "Ljava/lang/String;"), (0, .fieldref 8 18), (0, .nameAndType 19 20), (0, u "offset"), (0, u "I"), (0, .fieldref 8 22), (0, .nameAndType 23 20), (0, u "end"), (1, .class_ 27), (1, u "com/example/nasute/nasute/sql/Token$Type"), (33, u "(Lcom/example/nasute/nasute/sql/Token$Type;Ljava/lang/String;II)V")] 36

def k11c0 : Code := { maxStack := 2, maxLocals := 5, code := prog_90_method_1_code, exceptionTable := #[], attributes := #[] }
def k11m0 : Method := { name := "<init>", desc := "(Lcom/example/nasute/nasute/sql/Token$Type;Ljava/lang/String;II)V", sig := { parameters := [(.object "com/example/nasute/nasute/sql/Token$Type"), (.object "java/lang/String"), .int, .int], returnType := none }, accessFlags := 0, code := some k11c0 }
/-- com/example/nasute/nasute/sql/Token -/
def k11 : Class := { plain "com/example/nasute/nasute/sql/Token" (some 10) with
  accessFlags := 48
  interfaces := #[]
  cf := some (fileOf pool11 8 #[.nestMembers #[25]] #[{ accessFlags := 0, nameIndex := 5, descriptorIndex := 61, attributes := #[] }] 48 2 #[] #[{ accessFlags := 18, nameIndex := 11, descriptorIndex := 12, attributes := #[] }, { accessFlags := 18, nameIndex := 15, descriptorIndex := 16, attributes := #[] }, { accessFlags := 18, nameIndex := 19, descriptorIndex := 20, attributes := #[] }, { accessFlags := 18, nameIndex := 23, descriptorIndex := 20, attributes := #[] }])
  fields := #[{ name := "type", type := (.object "com/example/nasute/nasute/sql/Token$Type"), accessFlags := 18, slot := 0, constantValue := 0 }, { name := "value", type := (.object "java/lang/String"), accessFlags := 18, slot := 1, constantValue := 0 }, { name := "offset", type := .int, accessFlags := 18, slot := 2, constantValue := 0 }, { name := "end", type := .int, accessFlags := 18, slot := 3, constantValue := 0 }]
  methods := #[k11m0]
  instanceTypes := #[(.object "com/example/nasute/nasute/sql/Token$Type"), (.object "java/lang/String"), .int, .int]
  staticTypes := #[]
  resolved := Array.replicate 98 none
  statics := none }

def pool12 : Array CpInfo := pool [(2, .class_ 4), (1, u "java/lang/Enum"), (0, u "name"), (0, u "Ljava/lang/String;"), (2, u "ordinal"), (0, u "I"), (1, .class_ 14), (1, u "java/lang/Object"), (4, u "hash"), (86, .class_ 108), (1, u "java/lang/Enum$EnumDesc"), (2, .class_ 112), (0, u "java/lang/constant/Constable"), (0, .class_ 114), (0, u "java/lang/Comparable"), (0, .class_ 116), (0, u "java/io/Serializable")] 87

/-- java/lang/Enum -/
def k12 : Class := { plain "java/lang/Enum" (some 0) with
  accessFlags := 1057
  interfaces := #[6, 4, 3]
  cf := some (fileOf pool12 2 #[.nestMembers #[106]] #[] 1057 12 #[111, 113, 115] #[{ accessFlags := 18, nameIndex := 5, descriptorIndex := 6, attributes := #[] }, { accessFlags := 18, nameIndex := 9, descriptorIndex := 10, attributes := #[] }, { accessFlags := 2, nameIndex := 19, descriptorIndex := 10, attributes := #[] }])
  fields := #[{ name := "name", type := (.object "java/lang/String"), accessFlags := 18, slot := 0, constantValue := 0 }, { name := "ordinal", type := .int, accessFlags := 18, slot := 1, constantValue := 0 }, { name := "hash", type := .int, accessFlags := 2, slot := 2, constantValue := 0 }]
  methods := #[]
  instanceTypes := #[(.object "java/lang/String"), .int, .int]
  staticTypes := #[]
  resolved := Array.replicate 204 none
  statics := none }

def pool13 : Array CpInfo := pool [(1, .class_ 2), (0, u "com/example/nasute/nasute/sql/Token$Type"), (2, u "WORD"), (0, u "Lcom/example/nasute/nasute/sql/Token$Type;"), (2, u "QUOTED_NAME"), (2, u "STRING"), (2, u "NUMBER"), (2, u "VARIABLE"), (2, u "SYMBOL"), (2, u "$VALUES"), (0, u "[Lcom/example/nasute/nasute/sql/Token$Type;"), (6, .class_ 34), (1, u "java/lang/Enum"), (29, .class_ 65), (0, u "com/example/nasute/nasute/sql/Token")] 2

/-- com/example/nasute/nasute/sql/Token$Type -/
def k13 : Class := { plain "com/example/nasute/nasute/sql/Token$Type" (some 12) with
  accessFlags := 16432
  interfaces := #[]
  cf := some (fileOf pool13 1 #[.nestHost 64] #[] 16432 32 #[] #[{ accessFlags := 16409, nameIndex := 5, descriptorIndex := 6, attributes := #[] }, { accessFlags := 16409, nameIndex := 9, descriptorIndex := 6, attributes := #[] }, { accessFlags := 16409, nameIndex := 12, descriptorIndex := 6, attributes := #[] }, { accessFlags := 16409, nameIndex := 15, descriptorIndex := 6, attributes := #[] }, { accessFlags := 16409, nameIndex := 18, descriptorIndex := 6, attributes := #[] }, { accessFlags := 16409, nameIndex := 21, descriptorIndex := 6, attributes := #[] }, { accessFlags := 4122, nameIndex := 24, descriptorIndex := 25, attributes := #[] }])
  fields := #[{ name := "WORD", type := (.object "com/example/nasute/nasute/sql/Token$Type"), accessFlags := 16409, slot := 0, constantValue := 0 }, { name := "QUOTED_NAME", type := (.object "com/example/nasute/nasute/sql/Token$Type"), accessFlags := 16409, slot := 1, constantValue := 0 }, { name := "STRING", type := (.object "com/example/nasute/nasute/sql/Token$Type"), accessFlags := 16409, slot := 2, constantValue := 0 }, { name := "NUMBER", type := (.object "com/example/nasute/nasute/sql/Token$Type"), accessFlags := 16409, slot := 3, constantValue := 0 }, { name := "VARIABLE", type := (.object "com/example/nasute/nasute/sql/Token$Type"), accessFlags := 16409, slot := 4, constantValue := 0 }, { name := "SYMBOL", type := (.object "com/example/nasute/nasute/sql/Token$Type"), accessFlags := 16409, slot := 5, constantValue := 0 }, { name := "$VALUES", type := (.array (.object "com/example/nasute/nasute/sql/Token$Type")), accessFlags := 4122, slot := 6, constantValue := 0 }]
  methods := #[]
  instanceTypes := #[(.object "java/lang/String"), .int, .int]
  staticTypes := #[(.object "com/example/nasute/nasute/sql/Token$Type"), (.object "com/example/nasute/nasute/sql/Token$Type"), (.object "com/example/nasute/nasute/sql/Token$Type"), (.object "com/example/nasute/nasute/sql/Token$Type"), (.object "com/example/nasute/nasute/sql/Token$Type"), (.object "com/example/nasute/nasute/sql/Token$Type"), (.array (.object "com/example/nasute/nasute/sql/Token$Type"))]
  resolved := Array.replicate 68 none
  statics := some 1 }

def pool14 : Array CpInfo := pool [(8, .class_ 10), (1, u "java/lang/Iterable"), (24, .class_ 36), (0, u "java/lang/Object")] 25

/-- java/lang/Iterable -/
def k14 : Class := { plain "java/lang/Iterable" (some 0) with
  accessFlags := 1537
  interfaces := #[]
  cf := some (fileOf pool14 8 #[] #[] 1537 35 #[] #[])
  fields := #[]
  methods := #[]
  instanceTypes := #[]
  staticTypes := #[]
  resolved := Array.replicate 62 none
  statics := none }

def pool15 : Array CpInfo := pool [(10, .class_ 12), (1, u "java/util/Collection"), (47, .class_ 61), (0, u "java/lang/Object"), (0, .class_ 63), (0, u "java/lang/Iterable")] 51

/-- java/util/Collection -/
def k15 : Class := { plain "java/util/Collection" (some 0) with
  accessFlags := 1537
  interfaces := #[14]
  cf := some (fileOf pool15 10 #[] #[] 1537 60 #[62] #[])
  fields := #[]
  methods := #[]
  instanceTypes := #[]
  staticTypes := #[]
  resolved := Array.replicate 115 none
  statics := none }

def pool16 : Array CpInfo := pool [(1, .methodref 2 3), (0, .class_ 4), (0, .nameAndType 5 6), (0, u "java/lang/Object"), (0, u "<init>"), (0, u "()V"), (1, .class_ 10), (1, u "java/util/AbstractCollection"), (66, .class_ 78), (0, u "java/util/Collection")] 81

def k16c0 : Code := { maxStack := 1, maxLocals := 1, code := jdk_22_method_1_code, exceptionTable := #[], attributes := #[] }
def k16m0 : Method := { name := "<init>", desc := "()V", sig := { parameters := [], returnType := none }, accessFlags := 4, code := some k16c0 }
/-- java/util/AbstractCollection -/
def k16 : Class := { plain "java/util/AbstractCollection" (some 0) with
  accessFlags := 1057
  interfaces := #[15]
  cf := some (fileOf pool16 8 #[] #[{ accessFlags := 4, nameIndex := 5, descriptorIndex := 6, attributes := #[] }] 1057 2 #[77] #[])
  fields := #[]
  methods := #[k16m0]
  instanceTypes := #[]
  staticTypes := #[]
  resolved := Array.replicate 160 none
  statics := none }

def pool17 : Array CpInfo := pool [(8, .class_ 10), (1, u "java/util/SequencedCollection"), (15, .class_ 27), (0, u "java/lang/Object"), (0, .class_ 29), (0, u "java/util/Collection")] 27

/-- java/util/SequencedCollection -/
def k17 : Class := { plain "java/util/SequencedCollection" (some 0) with
  accessFlags := 1537
  interfaces := #[15]
  cf := some (fileOf pool17 8 #[] #[] 1537 26 #[28] #[])
  fields := #[]
  methods := #[]
  instanceTypes := #[]
  staticTypes := #[]
  resolved := Array.replicate 57 none
  statics := none }

def pool18 : Array CpInfo := pool [(8, .class_ 10), (1, u "java/util/List"), (49, u "add"), (3, u "(Ljava/lang/Object;)Z"), (10, u "get"), (0, u "(I)Ljava/lang/Object;"), (2, u "size"), (0, u "()I"), (22, .class_ 104), (0, u "java/lang/Object"), (15, .class_ 121), (0, u "java/util/SequencedCollection")] 129

def k18m0 : Method := { name := "size", desc := "()I", sig := { parameters := [], returnType := some .int }, accessFlags := 1025, code := none }
def k18m1 : Method := { name := "add", desc := "(Ljava/lang/Object;)Z", sig := { parameters := [(.object "java/lang/Object")], returnType := some .boolean }, accessFlags := 1025, code := none }
def k18m2 : Method := { name := "get", desc := "(I)Ljava/lang/Object;", sig := { parameters := [.int], returnType := some (.object "java/lang/Object") }, accessFlags := 1025, code := none }
/-- java/util/List -/
def k18 : Class := { plain "java/util/List" (some 0) with
  accessFlags := 1537
  interfaces := #[17]
  cf := some (fileOf pool18 8 #[] #[{ accessFlags := 1025, nameIndex := 79, descriptorIndex := 80, attributes := #[] }, { accessFlags := 1025, nameIndex := 60, descriptorIndex := 64, attributes := #[] }, { accessFlags := 1025, nameIndex := 75, descriptorIndex := 76, attributes := #[] }] 1537 103 #[120] #[])
  fields := #[]
  methods := #[k18m0, k18m1, k18m2]
  instanceTypes := #[]
  staticTypes := #[]
  resolved := Array.replicate 251 none
  statics := none }

def pool19 : Array CpInfo := pool [(1, .methodref 2 3), (0, .class_ 4), (0, .nameAndType 5 6), (0, u "java/util/AbstractCollection"), (0, u "<init>"), (0, u "()V"), (0, .fieldref 8 9), (0, .class_ 10), (0, .nameAndType 11 12), (0, u "java/util/AbstractList"), (0, u "modCount"), (0, u "I"), (64, .class_ 78), (0, u "java/util/AbstractList$Itr"), (3, .class_ 83), (0, u "java/util/AbstractList$ListItr"), (9, .class_ 94), (0, u "java/util/AbstractList$RandomAccessSubList"), (3, .class_ 99), (0, u "java/util/AbstractList$SubList"), (33, .class_ 134), (0, u "java/util/List"), (73, .class_ 209), (0, u "java/util/AbstractList$SubList$1"), (0, .class_ 211), (0, u "java/util/AbstractList$RandomAccessSpliterator")] 6

def k19c0 : Code := { maxStack := 2, maxLocals := 1, code := jdk_39_method_1_code, exceptionTable := #[], attributes := #[] }
def k19m0 : Method := { name := "<init>", desc := "()V", sig := { parameters := [], returnType := none }, accessFlags := 4, code := some k19c0 }
/-- java/util/AbstractList -/
def k19 : Class := { plain "java/util/AbstractList" (some 16) with
  accessFlags := 1057
  interfaces := #[18]
  cf := some (fileOf pool19 8 #[.nestMembers #[93, 98, 208, 210, 82, 77]] #[{ accessFlags := 4, nameIndex := 5, descriptorIndex := 6, attributes := #[] }] 1057 2 #[133] #[{ accessFlags := 132, nameIndex := 11, descriptorIndex := 12, attributes := #[] }])
  fields := #[{ name := "modCount", type := .int, accessFlags := 132, slot := 0, constantValue := 0 }]
  methods := #[k19m0]
  instanceTypes := #[.int]
  staticTypes := #[]
  resolved := Array.replicate 218 none
  statics := none }

def pool20 : Array CpInfo := pool [(1, .class_ 2), (0, u "java/util/RandomAccess"), (0, .class_ 4), (0, u "java/lang/Object")] 2

/-- java/util/RandomAccess -/
def k20 : Class := { plain "java/util/RandomAccess" (some 0) with
  accessFlags := 1537
  interfaces := #[]
  cf := some (fileOf pool20 1 #[] #[] 1537 3 #[] #[])
  fields := #[]
  methods := #[]
  instanceTypes := #[]
  staticTypes := #[]
  resolved := Array.replicate 7 none
  statics := none }

def pool21 : Array CpInfo := pool [(1, .class_ 2), (0, u "java/lang/Cloneable"), (0, .class_ 4), (0, u "java/lang/Object")] 2

/-- java/lang/Cloneable -/
def k21 : Class := { plain "java/lang/Cloneable" (some 0) with
  accessFlags := 1537
  interfaces := #[]
  cf := some (fileOf pool21 1 #[] #[] 1537 3 #[] #[])
  fields := #[]
  methods := #[]
  instanceTypes := #[]
  staticTypes := #[]
  resolved := Array.replicate 7 none
  statics := none }

def pool22 : Array CpInfo := pool [(1, .methodref 2 3), (0, .class_ 4), (0, .nameAndType 5 6), (0, u "java/util/AbstractList"), (0, u "<init>"), (0, u "()V"), (0, .class_ 8), (0, u "java/lang/Object"), (0, .fieldref 10 11), (0, .class_ 12), (0, .nameAndType 13 14), (0, u "java/util/ArrayList"), (0, u "elementData"), (0, u "[Ljava/lang/Object;"), (2, u "EMPTY_ELEMENTDATA"), (21, .fieldref 10 40), (0, .nameAndType 41 14), (0, u "DEFAULTCAPACITY_EMPTY_ELEMENTDATA"), (5, u "()[Ljava/lang/Object;"), (0, .fieldref 10 49), (0, .nameAndType 50 51), (0, u "size"), (0, u "I"), (11, .fieldref 10 64), (0, .nameAndType 65 51), (0, u "modCount"), (3, .methodref 10 70), (0, .nameAndType 71 72), (0, u "grow"), (0, u "(I)[Ljava/lang/Object;"), (6, .methodref 80 81), (0, .class_ 82), (0, .nameAndType 83 84), (0, u "java/lang/Math"), (0, u "max"), (0, u "(II)I"), (11, u "(Ljava/lang/Object;)Z"), (21, .methodref 119 120), (0, .class_ 121), (0, .nameAndType 122 84), (0, u "java/util/Objects"), (0, u "checkIndex"), (0, .methodref 10 124), (0, .nameAndType 13 125), (0, u "(I)Ljava/lang/Object;"), (3, .methodref 10 130), (0, .nameAndType 71 47), (0, .methodref 10 132), (0, .nameAndType 133 134), (0, u "add"), (0, u "(Ljava/lang/Object;[Ljava/lang/Object;I)V"), (13, .class_ 149), (0, u "java/util/List"), (36, u "()I"), (75, .class_ 263), (0, u "java/util/ArrayList$ListItr"), (3, .class_ 268), (0, u "java/util/ArrayList$Itr"), (7, .class_ 277), (0, u "java/util/ArrayList$SubList"), (12, .class_ 291), (0, u "java/util/ArrayList$ArrayListSpliterator"), (37, .class_ 330), (0, u "java/util/RandomAccess"), (0, .class_ 332), (0, u "java/lang/Cloneable"), (0, .class_ 334), (0, u "java/io/Serializable"), (0, u "serialVersionUID"), (0, u "J"), (3, u "DEFAULT_CAPACITY"), (40, u "get"), (118, .class_ 501), (0, u "java/util/ArrayList$SubList$2"), (0, .class_ 503), (0, u "java/util/ArrayList$SubList$1")] 5

def k22c0 : Code := { maxStack := 2, maxLocals := 1, code := jdk_38_method_2_code, exceptionTable := #[], attributes := #[] }
def k22m0 : Method := { name := "<init>", desc := "()V", sig := { parameters := [], returnType := none }, accessFlags := 1, code := some k22c0 }
def k22c1 : Code := { maxStack := 4, maxLocals := 4, code := jdk_38_method_6_code, exceptionTable := #[], attributes := #[] }
def k22m1 : Method := { name := "grow", desc := "(I)[Ljava/lang/Object;", sig := { parameters := [.int], returnType := some (.array (.object "java/lang/Object")) }, accessFlags := 2, code := some k22c1 }
def k22c2 : Code := { maxStack := 3, maxLocals := 1, code := jdk_38_method_7_code, exceptionTable := #[], attributes := #[] }
def k22m2 : Method := { name := "grow", desc := "()[Ljava/lang/Object;", sig := { parameters := [], returnType := some (.array (.object "java/lang/Object")) }, accessFlags := 2, code := some k22c2 }
def k22c3 : Code := { maxStack := 1, maxLocals := 1, code := jdk_38_method_8_code, exceptionTable := #[], attributes := #[] }
def k22m3 : Method := { name := "size", desc := "()I", sig := { parameters := [], returnType := some .int }, accessFlags := 1, code := some k22c3 }
def k22c4 : Code := { maxStack := 2, maxLocals := 2, code := jdk_38_method_18_code, exceptionTable := #[], attributes := #[] }
def k22m4 : Method := { name := "elementData", desc := "(I)Ljava/lang/Object;", sig := { parameters := [.int], returnType := some (.object "java/lang/Object") }, accessFlags := 0, code := some k22c4 }
def k22c5 : Code := { maxStack := 2, maxLocals := 2, code := jdk_38_method_20_code, exceptionTable := #[], attributes := #[] }
def k22m5 : Method := { name := "get", desc := "(I)Ljava/lang/Object;", sig := { parameters := [.int], returnType := some (.object "java/lang/Object") }, accessFlags := 1, code := some k22c5 }
def k22c6 : Code := { maxStack := 3, maxLocals := 4, code := jdk_38_method_24_code, exceptionTable := #[], attributes := #[] }
def k22m6 : Method := { name := "add", desc := "(Ljava/lang/Object;[Ljava/lang/Object;I)V", sig := { parameters := [(.object "java/lang/Object"), (.array (.object "java/lang/Object")), .int], returnType := none }, accessFlags := 2, code := some k22c6 }
def k22c7 : Code := { maxStack := 4, maxLocals := 2, code := jdk_38_method_25_code, exceptionTable := #[], attributes := #[] }
def k22m7 : Method := { name := "add", desc := "(Ljava/lang/Object;)Z", sig := { parameters := [(.object "java/lang/Object")], returnType := some .boolean }, accessFlags := 1, code := some k22c7 }
/-- java/util/ArrayList -/
def k22 : Class := { plain "java/util/ArrayList" (some 19) with
  accessFlags := 33
  interfaces := #[18, 20, 21, 3]
  cf := some (fileOf pool22 10 #[.nestMembers #[290, 276, 500, 502, 262, 267]] #[{ accessFlags := 1, nameIndex := 5, descriptorIndex := 6, attributes := #[] }, { accessFlags := 2, nameIndex := 71, descriptorIndex := 72, attributes := #[] }, { accessFlags := 2, nameIndex := 71, descriptorIndex := 47, attributes := #[] }, { accessFlags := 1, nameIndex := 50, descriptorIndex := 186, attributes := #[] }, { accessFlags := 0, nameIndex := 13, descriptorIndex := 125, attributes := #[] }, { accessFlags := 1, nameIndex := 381, descriptorIndex := 125, attributes := #[] }, { accessFlags := 2, nameIndex := 133, descriptorIndex := 134, attributes := #[] }, { accessFlags := 1, nameIndex := 133, descriptorIndex := 96, attributes := #[] }] 33 2 #[148, 329, 331, 333] #[{ accessFlags := 26, nameIndex := 335, descriptorIndex := 336, attributes := #[] }, { accessFlags := 26, nameIndex := 340, descriptorIndex := 51, attributes := #[] }, { accessFlags := 26, nameIndex := 17, descriptorIndex := 14, attributes := #[] }, { accessFlags := 26, nameIndex := 41, descriptorIndex := 14, attributes := #[] }, { accessFlags := 128, nameIndex := 13, descriptorIndex := 14, attributes := #[] }, { accessFlags := 2, nameIndex := 50, descriptorIndex := 51, attributes := #[] }])
  fields := #[{ name := "serialVersionUID", type := .long, accessFlags := 26, slot := 0, constantValue := 0 }, { name := "DEFAULT_CAPACITY", type := .int, accessFlags := 26, slot := 1, constantValue := 0 }, { name := "EMPTY_ELEMENTDATA", type := (.array (.object "java/lang/Object")), accessFlags := 26, slot := 2, constantValue := 0 }, { name := "DEFAULTCAPACITY_EMPTY_ELEMENTDATA", type := (.array (.object "java/lang/Object")), accessFlags := 26, slot := 3, constantValue := 0 }, { name := "elementData", type := (.array (.object "java/lang/Object")), accessFlags := 128, slot := 1, constantValue := 0 }, { name := "size", type := .int, accessFlags := 2, slot := 2, constantValue := 0 }]
  methods := #[k22m0, k22m1, k22m2, k22m3, k22m4, k22m5, k22m6, k22m7]
  instanceTypes := #[.int, (.array (.object "java/lang/Object")), .int]
  staticTypes := #[.long, .int, (.array (.object "java/lang/Object")), (.array (.object "java/lang/Object"))]
  resolved := Array.replicate 509 none
  statics := some 2 }

def pool23 : Array CpInfo := pool [(1, .class_ 2), (0, u "java/lang/Math"), (1, .class_ 6), (1, u "java/lang/Object"), (0, u "<init>"), (0, u "()V"), (89, .class_ 100), (1, u "java/lang/Math$RandomNumberGeneratorHolder"), (71, u "negativeZeroFloatBits"), (0, u "J"), (2, u "negativeZeroDoubleBits"), (21, u "max"), (2, u "min"), (43, u "$assertionsDisabled"), (0, u "Z"), (88, u "(II)I"), (2, u "twoToTheDoubleScaleDown"), (0, u "D"), (4, u "twoToTheDoubleScaleUp"), (9, u "E"), (3, u "PI"), (2, u "TAU"), (2, u "DEGREES_TO_RADIANS"), (0, u "RADIANS_TO_DEGREES")] 94

def k23m0 : Method := { name := "<init>", desc := "()V", sig := { parameters := [], returnType := none }, accessFlags := 2, code := none }
def k23c1 : Code := { maxStack := 2, maxLocals := 2, code := jdk_29_method_65_code, exceptionTable := #[], attributes := #[] }
def k23m1 : Method := { name := "max", desc := "(II)I", sig := { parameters := [.int, .int], returnType := some .int }, accessFlags := 9, code := some k23c1 }
def k23c2 : Code := { maxStack := 2, maxLocals := 2, code := jdk_29_method_69_code, exceptionTable := #[], attributes := #[] }
def k23m2 : Method := { name := "min", desc := "(II)I", sig := { parameters := [.int, .int], returnType := some .int }, accessFlags := 9, code := some k23c2 }
/-- java/lang/Math -/
def k23 : Class := { plain "java/lang/Math" (some 0) with
  accessFlags := 49
  interfaces := #[]
  cf := some (fileOf pool23 1 #[.nestMembers #[98]] #[{ accessFlags := 2, nameIndex := 7, descriptorIndex := 8, attributes := #[] }, { accessFlags := 9, nameIndex := 198, descriptorIndex := 335, attributes := #[] }, { accessFlags := 9, nameIndex := 201, descriptorIndex := 335, attributes := #[] }] 49 4 #[] #[{ accessFlags := 25, nameIndex := 354, descriptorIndex := 339, attributes := #[] }, { accessFlags := 25, nameIndex := 358, descriptorIndex := 339, attributes := #[] }, { accessFlags := 25, nameIndex := 361, descriptorIndex := 339, attributes := #[] }, { accessFlags := 26, nameIndex := 364, descriptorIndex := 339, attributes := #[] }, { accessFlags := 26, nameIndex := 365, descriptorIndex := 339, attributes := #[] }, { accessFlags := 26, nameIndex := 172, descriptorIndex := 173, attributes := #[] }, { accessFlags := 26, nameIndex := 176, descriptorIndex := 173, attributes := #[] }, { accessFlags := 8, nameIndex := 344, descriptorIndex := 339, attributes := #[] }, { accessFlags := 8, nameIndex := 338, descriptorIndex := 339, attributes := #[] }, { accessFlags := 4120, nameIndex := 245, descriptorIndex := 246, attributes := #[] }])
  fields := #[{ name := "E", type := .double, accessFlags := 25, slot := 0, constantValue := 0 }, { name := "PI", type := .double, accessFlags := 25, slot := 1, constantValue := 0 }, { name := "TAU", type := .double, accessFlags := 25, slot := 2, constantValue := 0 }, { name := "DEGREES_TO_RADIANS", type := .double, accessFlags := 26, slot := 3, constantValue := 0 }, { name := "RADIANS_TO_DEGREES", type := .double, accessFlags := 26, slot := 4, constantValue := 0 }, { name := "negativeZeroFloatBits", type := .long, accessFlags := 26, slot := 5, constantValue := 0 }, { name := "negativeZeroDoubleBits", type := .long, accessFlags := 26, slot := 6, constantValue := 0 }, { name := "twoToTheDoubleScaleUp", type := .double, accessFlags := 8, slot := 7, constantValue := 0 }, { name := "twoToTheDoubleScaleDown", type := .double, accessFlags := 8, slot := 8, constantValue := 0 }, { name := "$assertionsDisabled", type := .boolean, accessFlags := 4120, slot := 9, constantValue := 0 }]
  methods := #[k23m0, k23m1, k23m2]
  instanceTypes := #[]
  staticTypes := #[.double, .double, .double, .double, .double, .long, .long, .double, .double, .boolean]
  resolved := Array.replicate 460 none
  statics := none }

def pool24 : Array CpInfo := pool [(2, .class_ 4), (1, u "java/lang/Object"), (0, u "<init>"), (0, u "()V"), (35, .class_ 44), (1, u "java/util/Objects"), (60, .methodref 106 107), (0, .class_ 108), (0, .nameAndType 109 110), (0, u "jdk/internal/util/Preconditions"), (0, u "checkIndex"), (0, u "(IILjava/util/function/BiFunction;)I"), (60, u "(II)I")] 12

def k24m0 : Method := { name := "<init>", desc := "()V", sig := { parameters := [], returnType := none }, accessFlags := 2, code := none }
def k24c1 : Code := { maxStack := 3, maxLocals := 2, code := jdk_31_method_17_code, exceptionTable := #[], attributes := #[] }
def k24m1 : Method := { name := "checkIndex", desc := "(II)I", sig := { parameters := [.int, .int], returnType := some .int }, accessFlags := 9, code := some k24c1 }
/-- java/util/Objects -/
def k24 : Class := { plain "java/util/Objects" (some 0) with
  accessFlags := 49
  interfaces := #[]
  cf := some (fileOf pool24 42 #[] #[{ accessFlags := 2, nameIndex := 5, descriptorIndex := 6, attributes := #[] }, { accessFlags := 9, nameIndex := 109, descriptorIndex := 171, attributes := #[] }] 49 2 #[] #[])
  fields := #[]
  methods := #[k24m0, k24m1]
  instanceTypes := #[]
  staticTypes := #[]
  resolved := Array.replicate 184 none
  statics := none }

def pool25 : Array CpInfo := pool [(2, .class_ 4), (1, u "java/lang/Object"), (0, u "<init>"), (0, u "()V"), (17, .class_ 26), (1, u "jdk/internal/util/Preconditions"), (6, u "checkIndex"), (21, .class_ 56), (0, u "jdk/internal/util/Preconditions$4"), (57, .class_ 115), (0, u "jdk/internal/util/Preconditions$1"), (7, u "SIOOBE_FORMATTER"), (0, u "Ljava/util/function/BiFunction;"), (0, .class_ 126), (0, u "jdk/internal/util/Preconditions$2"), (3, u "AIOOBE_FORMATTER"), (0, .class_ 132), (0, u "jdk/internal/util/Preconditions$3"), (3, u "IOOBE_FORMATTER"), (41, u "(IILjava/util/function/BiFunction;)I")] 15

def k25m0 : Method := { name := "<init>", desc := "()V", sig := { parameters := [], returnType := none }, accessFlags := 1, code := none }
def k25c1 : Code := { maxStack := 3, maxLocals := 3, code := jdk_41_method_11_code, exceptionTable := #[], attributes := #[] }
def k25m1 : Method := { name := "checkIndex", desc := "(IILjava/util/function/BiFunction;)I", sig := { parameters := [.int, .int, (.object "java/util/function/BiFunction")], returnType := some .int }, accessFlags := 9, code := some k25c1 }
/-- jdk/internal/util/Preconditions -/
def k25 : Class := { plain "jdk/internal/util/Preconditions" (some 0) with
  accessFlags := 33
  interfaces := #[]
  cf := some (fileOf pool25 24 #[.nestMembers #[55, 131, 125, 114]] #[{ accessFlags := 1, nameIndex := 5, descriptorIndex := 6, attributes := #[] }, { accessFlags := 9, nameIndex := 33, descriptorIndex := 178, attributes := #[] }] 33 2 #[] #[{ accessFlags := 25, nameIndex := 123, descriptorIndex := 124, attributes := #[] }, { accessFlags := 25, nameIndex := 130, descriptorIndex := 124, attributes := #[] }, { accessFlags := 25, nameIndex := 136, descriptorIndex := 124, attributes := #[] }])
  fields := #[{ name := "SIOOBE_FORMATTER", type := (.object "java/util/function/BiFunction"), accessFlags := 25, slot := 0, constantValue := 0 }, { name := "AIOOBE_FORMATTER", type := (.object "java/util/function/BiFunction"), accessFlags := 25, slot := 1, constantValue := 0 }, { name := "IOOBE_FORMATTER", type := (.object "java/util/function/BiFunction"), accessFlags := 25, slot := 2, constantValue := 0 }]
  methods := #[k25m0, k25m1]
  instanceTypes := #[]
  staticTypes := #[(.object "java/util/function/BiFunction"), (.object "java/util/function/BiFunction"), (.object "java/util/function/BiFunction")]
  resolved := Array.replicate 194 none
  statics := some 3 }

def pool26 : Array CpInfo := pool [(9, u "<init>"), (6, .class_ 18), (1, u "java/lang/Object"), (0, u "()V"), (1, .class_ 23), (1, u "jdk/internal/util/ArraysSupport"), (0, u "LOG2_ARRAY_LONG_INDEX_SCALE"), (0, u "I"), (2, u "U"), (0, u "Ljdk/internal/misc/Unsafe;"), (8, u "BIG_ENDIAN"), (0, u "Z"), (8, u "LOG2_BYTE_BIT_SIZE"), (4, u "LOG2_ARRAY_INT_INDEX_SCALE"), (54, u "JLA"), (0, u "Ljdk/internal/access/JavaLangAccess;"), (11, u "LOG2_ARRAY_BOOLEAN_INDEX_SCALE"), (9, u "LOG2_ARRAY_BYTE_INDEX_SCALE"), (5, u "LOG2_ARRAY_CHAR_INDEX_SCALE"), (5, u "LOG2_ARRAY_SHORT_INDEX_SCALE"), (18, u "LOG2_ARRAY_FLOAT_INDEX_SCALE"), (24, u "LOG2_ARRAY_DOUBLE_INDEX_SCALE"), (89, u "T_BOOLEAN"), (2, u "T_CHAR"), (1, u "T_FLOAT"), (1, u "T_DOUBLE"), (1, u "T_BYTE"), (1, u "T_SHORT"), (1, u "T_INT"), (1, u "T_LONG"), (1, u "SOFT_MAX_ARRAY_LENGTH")] 83

def k26m0 : Method := { name := "<init>", desc := "()V", sig := { parameters := [], returnType := none }, accessFlags := 2, code := none }
/-- jdk/internal/util/ArraysSupport -/
def k26 : Class := { plain "jdk/internal/util/ArraysSupport" (some 0) with
  accessFlags := 33
  interfaces := #[]
  cf := some (fileOf pool26 21 #[] #[{ accessFlags := 2, nameIndex := 9, descriptorIndex := 19, attributes := #[] }] 33 16 #[] #[{ accessFlags := 24, nameIndex := 28, descriptorIndex := 29, attributes := #[] }, { accessFlags := 26, nameIndex := 38, descriptorIndex := 39, attributes := #[] }, { accessFlags := 25, nameIndex := 121, descriptorIndex := 25, attributes := #[] }, { accessFlags := 25, nameIndex := 131, descriptorIndex := 25, attributes := #[] }, { accessFlags := 25, nameIndex := 137, descriptorIndex := 25, attributes := #[] }, { accessFlags := 25, nameIndex := 143, descriptorIndex := 25, attributes := #[] }, { accessFlags := 25, nameIndex := 53, descriptorIndex := 25, attributes := #[] }, { accessFlags := 25, nameIndex := 24, descriptorIndex := 25, attributes := #[] }, { accessFlags := 25, nameIndex := 162, descriptorIndex := 25, attributes := #[] }, { accessFlags := 25, nameIndex := 187, descriptorIndex := 25, attributes := #[] }, { accessFlags := 26, nameIndex := 48, descriptorIndex := 25, attributes := #[] }, { accessFlags := 25, nameIndex := 277, descriptorIndex := 25, attributes := #[] }, { accessFlags := 25, nameIndex := 280, descriptorIndex := 25, attributes := #[] }, { accessFlags := 25, nameIndex := 282, descriptorIndex := 25, attributes := #[] }, { accessFlags := 25, nameIndex := 284, descriptorIndex := 25, attributes := #[] }, { accessFlags := 25, nameIndex := 286, descriptorIndex := 25, attributes := #[] }, { accessFlags := 25, nameIndex := 288, descriptorIndex := 25, attributes := #[] }, { accessFlags := 25, nameIndex := 290, descriptorIndex := 25, attributes := #[] }, { accessFlags := 25, nameIndex := 292, descriptorIndex := 25, attributes := #[] }, { accessFlags := 26, nameIndex := 108, descriptorIndex := 109, attributes := #[] }, { accessFlags := 25, nameIndex := 294, descriptorIndex := 25, attributes := #[] }])
  fields := #[{ name := "U", type := (.object "jdk/internal/misc/Unsafe"), accessFlags := 24, slot := 0, constantValue := 0 }, { name := "BIG_ENDIAN", type := .boolean, accessFlags := 26, slot := 1, constantValue := 0 }, { name := "LOG2_ARRAY_BOOLEAN_INDEX_SCALE", type := .int, accessFlags := 25, slot := 2, constantValue := 0 }, { name := "LOG2_ARRAY_BYTE_INDEX_SCALE", type := .int, accessFlags := 25, slot := 3, constantValue := 0 }, { name := "LOG2_ARRAY_CHAR_INDEX_SCALE", type := .int, accessFlags := 25, slot := 4, constantValue := 0 }, { name := "LOG2_ARRAY_SHORT_INDEX_SCALE", type := .int, accessFlags := 25, slot := 5, constantValue := 0 }, { name := "LOG2_ARRAY_INT_INDEX_SCALE", type := .int, accessFlags := 25, slot := 6, constantValue := 0 }, { name := "LOG2_ARRAY_LONG_INDEX_SCALE", type := .int, accessFlags := 25, slot := 7, constantValue := 0 }, { name := "LOG2_ARRAY_FLOAT_INDEX_SCALE", type := .int, accessFlags := 25, slot := 8, constantValue := 0 }, { name := "LOG2_ARRAY_DOUBLE_INDEX_SCALE", type := .int, accessFlags := 25, slot := 9, constantValue := 0 }, { name := "LOG2_BYTE_BIT_SIZE", type := .int, accessFlags := 26, slot := 10, constantValue := 0 }, { name := "T_BOOLEAN", type := .int, accessFlags := 25, slot := 11, constantValue := 0 }, { name := "T_CHAR", type := .int, accessFlags := 25, slot := 12, constantValue := 0 }, { name := "T_FLOAT", type := .int, accessFlags := 25, slot := 13, constantValue := 0 }, { name := "T_DOUBLE", type := .int, accessFlags := 25, slot := 14, constantValue := 0 }, { name := "T_BYTE", type := .int, accessFlags := 25, slot := 15, constantValue := 0 }, { name := "T_SHORT", type := .int, accessFlags := 25, slot := 16, constantValue := 0 }, { name := "T_INT", type := .int, accessFlags := 25, slot := 17, constantValue := 0 }, { name := "T_LONG", type := .int, accessFlags := 25, slot := 18, constantValue := 0 }, { name := "JLA", type := (.object "jdk/internal/access/JavaLangAccess"), accessFlags := 26, slot := 19, constantValue := 0 }, { name := "SOFT_MAX_ARRAY_LENGTH", type := .int, accessFlags := 25, slot := 20, constantValue := 0 }]
  methods := #[k26m0]
  instanceTypes := #[]
  staticTypes := #[(.object "jdk/internal/misc/Unsafe"), .boolean, .int, .int, .int, .int, .int, .int, .int, .int, .int, .int, .int, .int, .int, .int, .int, .int, .int, (.object "jdk/internal/access/JavaLangAccess"), .int]
  resolved := Array.replicate 378 none
  statics := none }

/-- the primitive byte -/
def k27 : Class := { plain "byte" none with kind := .primitive 'B', accessFlags := 0x411 }
/-- [B -/
def k28 : Class := { plain "[B" (some 0) with kind := .array 27 .byte, interfaces := #[21, 3], accessFlags := 1041 }

/-- the primitive int -/
def k29 : Class := { plain "int" none with kind := .primitive 'I', accessFlags := 0x411 }
/-- [I -/
def k30 : Class := { plain "[I" (some 0) with kind := .array 29 .int, interfaces := #[21, 3], accessFlags := 1041 }

/-- [Ljava/lang/Object; -/
def k31 : Class := { plain "[Ljava/lang/Object;" (some 0) with kind := .array 0 (.object "java/lang/Object"), interfaces := #[21, 3], accessFlags := 1041 }

def heap : Heap := #[{ cls := 8, slots := #[.long 0, .int 1, .null, .int 0, .null, .int 0, .int 0], vm := .statics 8 },
  { cls := 13, slots := #[.ref 4, .ref 5, .ref 6, .ref 7, .ref 8, .ref 9, .null], vm := .statics 13 },
  { cls := 22, slots := #[.long 0, .int 0, .ref 10, .ref 11], vm := .statics 22 },
  { cls := 25, slots := #[.null, .null, .null], vm := .statics 25 },
  { cls := 13, slots := #[.null, .int 0, .int 0], vm := .none },
  { cls := 13, slots := #[.null, .int 1, .int 0], vm := .none },
  { cls := 13, slots := #[.null, .int 2, .int 0], vm := .none },
  { cls := 13, slots := #[.null, .int 3, .int 0], vm := .none },
  { cls := 13, slots := #[.null, .int 4, .int 0], vm := .none },
  { cls := 13, slots := #[.null, .int 5, .int 0], vm := .none },
  { cls := 31, slots := #[], vm := .none },
  { cls := 31, slots := #[], vm := .none }]
def classes : Array Class := #[k0, k1, k2, k3, k4, k5, k6, k7, k8, k9, k10, k11, k12, k13, k14, k15, k16, k17, k18, k19, k20, k21, k22, k23, k24, k25, k26, k27, k28, k29, k30, k31]
def interned : List (Array UInt16 × Addr) := []
def slotsUsed : Nat := 39
def theMethod : MethodId := ⟨2, 1⟩
def args0 : Array Value := #[.int 2, .int 1, .int 7, .int 66, .int 300, .int 77]
def aboutOver (below : List Frame) : State where
  vm := { classes := classes, interned := interned.toArray }
  heap := heap
  slotsUsed := slotsUsed
  threads := #[{ frames := .invoking theMethod args0 :: below }]
def below0 : List Frame := [.native { method := ⟨0, 0⟩, args := #[] }]
def about1 : State := aboutOver below0
def p0 : Program := .bare "" "" ""
def e0 : Env := launch0.env 0 0 0
theorem w_frames : about1.frames = Frame.invoking theMethod args0 :: below0 := rfl
set_option maxRecDepth 65536 in
theorem w_args : argsFit about1.vm theMethod args0 = true := by decide +kernel
set_option maxRecDepth 65536 in
theorem w_heap : heapFits about1 = true := by decide +kernel
set_option maxRecDepth 65536 in
theorem w_runnable : about1.curStatus? = some .runnable := by decide +kernel
set_option maxRecDepth 65536 in
theorem w_alone : about1.alone = true := by decide +kernel
set_option maxRecDepth 65536 in
theorem w_named : about1.methodNamed? x = some theMethod := by decide +kernel
set_option maxRecDepth 65536 in
theorem w_hears : about1.hears theMethod below0 = true := by decide +kernel
set_option maxRecDepth 65536 in
theorem w_ripe : about1.ripe theMethod args0 below0 = true := by decide +kernel
theorem w_running : about1.status = .running := rfl
set_option maxRecDepth 65536 in
theorem w_room : about1.hasRoom e0.platform room_1 = true :=
  launch0.hasRoom_least _ room_1 (by decide +kernel) (by decide +kernel) (by decide +kernel) (by decide +kernel) (by decide +kernel) (by decide +kernel)
theorem allAtoms_all (ts : List Jvm.Cond) (a : Array Jvm.Value) (st : Jvm.State) : (allAtoms ts).before a st = ts.all (fun c => c.before a st) := by
  induction ts with
  | nil => rfl
  | cons c t ih =>
    show (Jvm.Cond.and c (allAtoms t)).before a st = _
    rw [Jvm.Cond.before_and, ih, List.all_cons]
def words1 : List Jvm.Cond := Jvm.Cond.code x code maxLocals ret :: tables_1
/-- a 'code' word, met by the world's own term for the bytes: nothing is compared byte by byte -/
theorem code_word {y : MethodName} {bytes : ByteArray} {mx : Nat} {rt : Option FieldType} {a : Array Value} {s : State} {m : MethodId} {meth : Method} {c : Code} (h1 : s.methodNamed? y = some m) (h2 : s.vm.method? m = some meth) (h3 : meth.code = some c) (h4 : c.code = bytes)
    (h5 : (c.maxLocals == mx && c.exceptionTable.isEmpty && decide (c.maxStack ≤ mostOperands) && decide (meth.sig.returnType = rt) && !meth.locks && decide (parseMethodDescriptor y.desc = some meth.sig)) = true) : (Jvm.Cond.code y bytes mx rt).before a s = true := by
  simp only [Bool.and_eq_true, beq_iff_eq, Bool.not_eq_true', decide_eq_true_eq] at h5
  obtain ⟨⟨⟨⟨⟨g1, g2⟩, g3⟩, g4⟩, g5⟩, g6⟩ := h5
  simp [Cond.before, Cond.holds, Cond.value, h1, h2, h3, h4, g1, g2, g3, g4, g5, g6]
def isCode : Jvm.Cond → Bool
  | .code _ _ _ _ => true
  | _ => false
theorem all_split {L : List Jvm.Cond} {P : Jvm.Cond → Bool} (h1 : L.all (fun c => isCode c || P c) = true) (h2 : ∀ c ∈ L.filter isCode, P c = true) : L.all P = true := by
  refine List.all_eq_true.mpr fun c hc => ?_
  have h := List.all_eq_true.mp h1 c hc
  rcases Bool.eq_false_or_eq_true (isCode c) with hi | hi
  · exact h2 c (List.mem_filter.mpr ⟨hc, hi⟩)
  · simpa [hi] using h
set_option maxRecDepth 65536 in
theorem w_c0 : (Jvm.Cond.code x code maxLocals ret).before args0 about1 = true := code_word (m := ⟨2, 1⟩) (meth := k2m1) (c := k2c1) (by decide +kernel) rfl rfl rfl (by decide +kernel)
set_option maxRecDepth 65536 in
theorem w_c1 : (Jvm.Cond.code ({ cls := "com/example/nasute/nasute/sql/TokenCursorIsTextEndPinLaw", name := "token", desc := "(II)Lcom/example/nasute/nasute/sql/Token;" } : Jvm.MethodName) method_3_code (4 : Nat) (Option.some (Jvm.ClassFile.FieldType.object "com/example/nasute/nasute/sql/Token"))).before args0 about1 = true := code_word (m := ⟨2, 2⟩) (meth := k2m2) (c := k2c2) (by decide +kernel) rfl rfl rfl (by decide +kernel)
set_option maxRecDepth 65536 in
theorem w_c2 : (Jvm.Cond.code ({ cls := "java/lang/String", name := "valueOf", desc := "(C)Ljava/lang/String;" } : Jvm.MethodName) jdk_42_method_139_code (1 : Nat) (Option.some (Jvm.ClassFile.FieldType.object "java/lang/String"))).before args0 about1 = true := code_word (m := ⟨8, 1⟩) (meth := k8m1) (c := k8c1) (by decide +kernel) rfl rfl rfl (by decide +kernel)
set_option maxRecDepth 65536 in
theorem w_c3 : (Jvm.Cond.code ({ cls := "java/lang/StringLatin1", name := "canEncode", desc := "(C)Z" } : Jvm.MethodName) jdk_43_method_3_code (1 : Nat) (Option.some Jvm.ClassFile.FieldType.boolean)).before args0 about1 = true := code_word (m := ⟨9, 1⟩) (meth := k9m1) (c := k9c1) (by decide +kernel) rfl rfl rfl (by decide +kernel)
set_option maxRecDepth 65536 in
theorem w_c4 : (Jvm.Cond.code ({ cls := "java/lang/StringLatin1", name := "toBytes", desc := "(C)[B" } : Jvm.MethodName) jdk_43_method_46_code (1 : Nat) (Option.some (Jvm.ClassFile.FieldType.array Jvm.ClassFile.FieldType.byte))).before args0 about1 = true := code_word (m := ⟨9, 2⟩) (meth := k9m2) (c := k9c2) (by decide +kernel) rfl rfl rfl (by decide +kernel)
set_option maxRecDepth 65536 in
theorem w_c5 : (Jvm.Cond.code ({ cls := "java/lang/String", name := "<init>", desc := "([BB)V" } : Jvm.MethodName) jdk_42_method_151_code (3 : Nat) (Option.none : Option Jvm.ClassFile.FieldType)).before args0 about1 = true := code_word (m := ⟨8, 2⟩) (meth := k8m2) (c := k8c2) (by decide +kernel) rfl rfl rfl (by decide +kernel)
set_option maxRecDepth 65536 in
theorem w_c6 : (Jvm.Cond.code ({ cls := "java/lang/Object", name := "<init>", desc := "()V" } : Jvm.MethodName) object_method_1_code (1 : Nat) (Option.none : Option Jvm.ClassFile.FieldType)).before args0 about1 = true := code_word (m := ⟨0, 0⟩) (meth := k0m0) (c := k0c0) (by decide +kernel) rfl rfl rfl (by decide +kernel)
set_option maxRecDepth 65536 in
theorem w_c7 : (Jvm.Cond.code ({ cls := "com/example/nasute/nasute/sql/TokenCursorIsTextEndPinLaw", name := "type", desc := "(I)Lcom/example/nasute/nasute/sql/Token$Type;" } : Jvm.MethodName) method_4_code (2 : Nat) (Option.some (Jvm.ClassFile.FieldType.object "com/example/nasute/nasute/sql/Token$Type"))).before args0 about1 = true := code_word (m := ⟨2, 3⟩) (meth := k2m3) (c := k2c3) (by decide +kernel) rfl rfl rfl (by decide +kernel)
set_option maxRecDepth 65536 in
theorem w_c8 : (Jvm.Cond.code ({ cls := "com/example/nasute/nasute/sql/Token", name := "<init>", desc := "(Lcom/example/nasute/nasute/sql/Token$Type;Ljava/lang/String;II)V" } : Jvm.MethodName) prog_90_method_1_code (5 : Nat) (Option.none : Option Jvm.ClassFile.FieldType)).before args0 about1 = true := code_word (m := ⟨11, 0⟩) (meth := k11m0) (c := k11c0) (by decide +kernel) rfl rfl rfl (by decide +kernel)
set_option maxRecDepth 65536 in
theorem w_c9 : (Jvm.Cond.code ({ cls := "java/lang/Record", name := "<init>", desc := "()V" } : Jvm.MethodName) jdk_30_method_1_code (1 : Nat) (Option.none : Option Jvm.ClassFile.FieldType)).before args0 about1 = true := code_word (m := ⟨10, 0⟩) (meth := k10m0) (c := k10c0) (by decide +kernel) rfl rfl rfl (by decide +kernel)
set_option maxRecDepth 65536 in
theorem w_c10 : (Jvm.Cond.code ({ cls := "java/util/ArrayList", name := "<init>", desc := "()V" } : Jvm.MethodName) jdk_38_method_2_code (1 : Nat) (Option.none : Option Jvm.ClassFile.FieldType)).before args0 about1 = true := code_word (m := ⟨22, 0⟩) (meth := k22m0) (c := k22c0) (by decide +kernel) rfl rfl rfl (by decide +kernel)
set_option maxRecDepth 65536 in
theorem w_c11 : (Jvm.Cond.code ({ cls := "java/util/AbstractList", name := "<init>", desc := "()V" } : Jvm.MethodName) jdk_39_method_1_code (1 : Nat) (Option.none : Option Jvm.ClassFile.FieldType)).before args0 about1 = true := code_word (m := ⟨19, 0⟩) (meth := k19m0) (c := k19c0) (by decide +kernel) rfl rfl rfl (by decide +kernel)
set_option maxRecDepth 65536 in
theorem w_c12 : (Jvm.Cond.code ({ cls := "java/util/AbstractCollection", name := "<init>", desc := "()V" } : Jvm.MethodName) jdk_22_method_1_code (1 : Nat) (Option.none : Option Jvm.ClassFile.FieldType)).before args0 about1 = true := code_word (m := ⟨16, 0⟩) (meth := k16m0) (c := k16c0) (by decide +kernel) rfl rfl rfl (by decide +kernel)
set_option maxRecDepth 65536 in
theorem w_c13 : (Jvm.Cond.code ({ cls := "com/example/nasute/nasute/sql/TokenCursorIsTextEndPinLaw", name := "<init>", desc := "(Ljava/util/List;I)V" } : Jvm.MethodName) method_1_code (3 : Nat) (Option.none : Option Jvm.ClassFile.FieldType)).before args0 about1 = true := code_word (m := ⟨2, 0⟩) (meth := k2m0) (c := k2c0) (by decide +kernel) rfl rfl rfl (by decide +kernel)
set_option maxRecDepth 65536 in
theorem w_c14 : (Jvm.Cond.code ({ cls := "com/example/nasute/nasute/sql/TokenCursor", name := "<init>", desc := "(Ljava/util/List;I)V" } : Jvm.MethodName) prog_92_method_1_code (3 : Nat) (Option.none : Option Jvm.ClassFile.FieldType)).before args0 about1 = true := code_word (m := ⟨1, 0⟩) (meth := k1m0) (c := k1c0) (by decide +kernel) rfl rfl rfl (by decide +kernel)
set_option maxRecDepth 65536 in
theorem w_c15 : (Jvm.Cond.code ({ cls := "java/lang/Math", name := "min", desc := "(II)I" } : Jvm.MethodName) jdk_29_method_69_code (2 : Nat) (Option.some Jvm.ClassFile.FieldType.int)).before args0 about1 = true := code_word (m := ⟨23, 2⟩) (meth := k23m2) (c := k23c2) (by decide +kernel) rfl rfl rfl (by decide +kernel)
set_option maxRecDepth 65536 in
theorem w_c16 : (Jvm.Cond.code ({ cls := "com/example/nasute/nasute/sql/TokenCursor", name := "peek", desc := "(I)Lcom/example/nasute/nasute/sql/Token;" } : Jvm.MethodName) prog_92_method_3_code (3 : Nat) (Option.some (Jvm.ClassFile.FieldType.object "com/example/nasute/nasute/sql/Token"))).before args0 about1 = true := code_word (m := ⟨1, 2⟩) (meth := k1m2) (c := k1c2) (by decide +kernel) rfl rfl rfl (by decide +kernel)
set_option maxRecDepth 65536 in
theorem w_c17 : (Jvm.Cond.code ({ cls := "java/util/ArrayList", name := "size", desc := "()I" } : Jvm.MethodName) jdk_38_method_8_code (1 : Nat) (Option.some Jvm.ClassFile.FieldType.int)).before args0 about1 = true := code_word (m := ⟨22, 3⟩) (meth := k22m3) (c := k22c3) (by decide +kernel) rfl rfl rfl (by decide +kernel)
set_option maxRecDepth 65536 in
theorem w_c18 : (Jvm.Cond.code ({ cls := "com/example/nasute/nasute/sql/TokenCursor", name := "isTextEnd", desc := "(Lcom/example/nasute/nasute/sql/Token;)Z" } : Jvm.MethodName) prog_92_method_13_code (2 : Nat) (Option.some Jvm.ClassFile.FieldType.boolean)).before args0 about1 = true := code_word (m := ⟨1, 4⟩) (meth := k1m4) (c := k1c4) (by decide +kernel) rfl rfl rfl (by decide +kernel)
set_option maxRecDepth 65536 in
theorem w_c19 : (Jvm.Cond.code ({ cls := "java/util/ArrayList", name := "add", desc := "(Ljava/lang/Object;)Z" } : Jvm.MethodName) jdk_38_method_25_code (2 : Nat) (Option.some Jvm.ClassFile.FieldType.boolean)).before args0 about1 = true := code_word (m := ⟨22, 7⟩) (meth := k22m7) (c := k22c7) (by decide +kernel) rfl rfl rfl (by decide +kernel)
set_option maxRecDepth 65536 in
theorem w_c20 : (Jvm.Cond.code ({ cls := "java/util/ArrayList", name := "add", desc := "(Ljava/lang/Object;[Ljava/lang/Object;I)V" } : Jvm.MethodName) jdk_38_method_24_code (4 : Nat) (Option.none : Option Jvm.ClassFile.FieldType)).before args0 about1 = true := code_word (m := ⟨22, 6⟩) (meth := k22m6) (c := k22c6) (by decide +kernel) rfl rfl rfl (by decide +kernel)
set_option maxRecDepth 65536 in
theorem w_c21 : (Jvm.Cond.code ({ cls := "java/util/ArrayList", name := "grow", desc := "()[Ljava/lang/Object;" } : Jvm.MethodName) jdk_38_method_7_code (1 : Nat) (Option.some (Jvm.ClassFile.FieldType.array (Jvm.ClassFile.FieldType.object "java/lang/Object")))).before args0 about1 = true := code_word (m := ⟨22, 2⟩) (meth := k22m2) (c := k22c2) (by decide +kernel) rfl rfl rfl (by decide +kernel)
set_option maxRecDepth 65536 in
theorem w_c22 : (Jvm.Cond.code ({ cls := "java/util/ArrayList", name := "grow", desc := "(I)[Ljava/lang/Object;" } : Jvm.MethodName) jdk_38_method_6_code (4 : Nat) (Option.some (Jvm.ClassFile.FieldType.array (Jvm.ClassFile.FieldType.object "java/lang/Object")))).before args0 about1 = true := code_word (m := ⟨22, 1⟩) (meth := k22m1) (c := k22c1) (by decide +kernel) rfl rfl rfl (by decide +kernel)
set_option maxRecDepth 65536 in
theorem w_c23 : (Jvm.Cond.code ({ cls := "java/lang/Math", name := "max", desc := "(II)I" } : Jvm.MethodName) jdk_29_method_65_code (2 : Nat) (Option.some Jvm.ClassFile.FieldType.int)).before args0 about1 = true := code_word (m := ⟨23, 1⟩) (meth := k23m1) (c := k23c1) (by decide +kernel) rfl rfl rfl (by decide +kernel)
set_option maxRecDepth 65536 in
theorem w_c24 : (Jvm.Cond.code ({ cls := "com/example/nasute/nasute/sql/TokenCursor", name := "next", desc := "()Lcom/example/nasute/nasute/sql/Token;" } : Jvm.MethodName) prog_92_method_4_code (2 : Nat) (Option.some (Jvm.ClassFile.FieldType.object "com/example/nasute/nasute/sql/Token"))).before args0 about1 = true := code_word (m := ⟨1, 3⟩) (meth := k1m3) (c := k1c3) (by decide +kernel) rfl rfl rfl (by decide +kernel)
set_option maxRecDepth 65536 in
theorem w_c25 : (Jvm.Cond.code ({ cls := "com/example/nasute/nasute/sql/TokenCursor", name := "peek", desc := "()Lcom/example/nasute/nasute/sql/Token;" } : Jvm.MethodName) prog_92_method_2_code (1 : Nat) (Option.some (Jvm.ClassFile.FieldType.object "com/example/nasute/nasute/sql/Token"))).before args0 about1 = true := code_word (m := ⟨1, 1⟩) (meth := k1m1) (c := k1c1) (by decide +kernel) rfl rfl rfl (by decide +kernel)
set_option maxRecDepth 65536 in
theorem w_c26 : (Jvm.Cond.code ({ cls := "java/util/ArrayList", name := "get", desc := "(I)Ljava/lang/Object;" } : Jvm.MethodName) jdk_38_method_20_code (2 : Nat) (Option.some (Jvm.ClassFile.FieldType.object "java/lang/Object"))).before args0 about1 = true := code_word (m := ⟨22, 5⟩) (meth := k22m5) (c := k22c5) (by decide +kernel) rfl rfl rfl (by decide +kernel)
set_option maxRecDepth 65536 in
theorem w_c27 : (Jvm.Cond.code ({ cls := "java/util/Objects", name := "checkIndex", desc := "(II)I" } : Jvm.MethodName) jdk_31_method_17_code (2 : Nat) (Option.some Jvm.ClassFile.FieldType.int)).before args0 about1 = true := code_word (m := ⟨24, 1⟩) (meth := k24m1) (c := k24c1) (by decide +kernel) rfl rfl rfl (by decide +kernel)
set_option maxRecDepth 65536 in
theorem w_c28 : (Jvm.Cond.code ({ cls := "jdk/internal/util/Preconditions", name := "checkIndex", desc := "(IILjava/util/function/BiFunction;)I" } : Jvm.MethodName) jdk_41_method_11_code (3 : Nat) (Option.some Jvm.ClassFile.FieldType.int)).before args0 about1 = true := code_word (m := ⟨25, 1⟩) (meth := k25m1) (c := k25c1) (by decide +kernel) rfl rfl rfl (by decide +kernel)
set_option maxRecDepth 65536 in
theorem w_c29 : (Jvm.Cond.code ({ cls := "java/util/ArrayList", name := "elementData", desc := "(I)Ljava/lang/Object;" } : Jvm.MethodName) jdk_38_method_18_code (2 : Nat) (Option.some (Jvm.ClassFile.FieldType.object "java/lang/Object"))).before args0 about1 = true := code_word (m := ⟨22, 4⟩) (meth := k22m4) (c := k22c4) (by decide +kernel) rfl rfl rfl (by decide +kernel)
def codes1 : List Jvm.Cond := [Jvm.Cond.code x code maxLocals ret, Jvm.Cond.code ({ cls := "com/example/nasute/nasute/sql/TokenCursorIsTextEndPinLaw", name := "token", desc := "(II)Lcom/example/nasute/nasute/sql/Token;" } : Jvm.MethodName) method_3_code (4 : Nat) (Option.some (Jvm.ClassFile.FieldType.object "com/example/nasute/nasute/sql/Token")), Jvm.Cond.code ({ cls := "java/lang/String", name := "valueOf", desc := "(C)Ljava/lang/String;" } : Jvm.MethodName) jdk_42_method_139_code (1 : Nat) (Option.some (Jvm.ClassFile.FieldType.object "java/lang/String")), Jvm.Cond.code ({ cls := "java/lang/StringLatin1", name := "canEncode", desc := "(C)Z" } : Jvm.MethodName) jdk_43_method_3_code (1 : Nat) (Option.some Jvm.ClassFile.FieldType.boolean), Jvm.Cond.code ({ cls := "java/lang/StringLatin1", name := "toBytes", desc := "(C)[B" } : Jvm.MethodName) jdk_43_method_46_code (1 : Nat) (Option.some (Jvm.ClassFile.FieldType.array Jvm.ClassFile.FieldType.byte)), Jvm.Cond.code ({ cls := "java/lang/String", name := "<init>", desc := "([BB)V" } : Jvm.MethodName) jdk_42_method_151_code (3 : Nat) (Option.none : Option Jvm.ClassFile.FieldType), Jvm.Cond.code ({ cls := "java/lang/Object", name := "<init>", desc := "()V" } : Jvm.MethodName) object_method_1_code (1 : Nat) (Option.none : Option Jvm.ClassFile.FieldType), Jvm.Cond.code ({ cls := "com/example/nasute/nasute/sql/TokenCursorIsTextEndPinLaw", name := "type", desc := "(I)Lcom/example/nasute/nasute/sql/Token$Type;" } : Jvm.MethodName) method_4_code (2 : Nat) (Option.some (Jvm.ClassFile.FieldType.object "com/example/nasute/nasute/sql/Token$Type")), Jvm.Cond.code ({ cls := "com/example/nasute/nasute/sql/Token", name := "<init>", desc := "(Lcom/example/nasute/nasute/sql/Token$Type;Ljava/lang/String;II)V" } : Jvm.MethodName) prog_90_method_1_code (5 : Nat) (Option.none : Option Jvm.ClassFile.FieldType), Jvm.Cond.code ({ cls := "java/lang/Record", name := "<init>", desc := "()V" } : Jvm.MethodName) jdk_30_method_1_code (1 : Nat) (Option.none : Option Jvm.ClassFile.FieldType), Jvm.Cond.code ({ cls := "java/util/ArrayList", name := "<init>", desc := "()V" } : Jvm.MethodName) jdk_38_method_2_code (1 : Nat) (Option.none : Option Jvm.ClassFile.FieldType), Jvm.Cond.code ({ cls := "java/util/AbstractList", name := "<init>", desc := "()V" } : Jvm.MethodName) jdk_39_method_1_code (1 : Nat) (Option.none : Option Jvm.ClassFile.FieldType), Jvm.Cond.code ({ cls := "java/util/AbstractCollection", name := "<init>", desc := "()V" } : Jvm.MethodName) jdk_22_method_1_code (1 : Nat) (Option.none : Option Jvm.ClassFile.FieldType), Jvm.Cond.code ({ cls := "com/example/nasute/nasute/sql/TokenCursorIsTextEndPinLaw", name := "<init>", desc := "(Ljava/util/List;I)V" } : Jvm.MethodName) method_1_code (3 : Nat) (Option.none : Option Jvm.ClassFile.FieldType), Jvm.Cond.code ({ cls := "com/example/nasute/nasute/sql/TokenCursor", name := "<init>", desc := "(Ljava/util/List;I)V" } : Jvm.MethodName) prog_92_method_1_code (3 : Nat) (Option.none : Option Jvm.ClassFile.FieldType), Jvm.Cond.code ({ cls := "java/lang/Math", name := "min", desc := "(II)I" } : Jvm.MethodName) jdk_29_method_69_code (2 : Nat) (Option.some Jvm.ClassFile.FieldType.int), Jvm.Cond.code ({ cls := "com/example/nasute/nasute/sql/TokenCursor", name := "peek", desc := "(I)Lcom/example/nasute/nasute/sql/Token;" } : Jvm.MethodName) prog_92_method_3_code (3 : Nat) (Option.some (Jvm.ClassFile.FieldType.object "com/example/nasute/nasute/sql/Token")), Jvm.Cond.code ({ cls := "java/util/ArrayList", name := "size", desc := "()I" } : Jvm.MethodName) jdk_38_method_8_code (1 : Nat) (Option.some Jvm.ClassFile.FieldType.int), Jvm.Cond.code ({ cls := "com/example/nasute/nasute/sql/TokenCursor", name := "isTextEnd", desc := "(Lcom/example/nasute/nasute/sql/Token;)Z" } : Jvm.MethodName) prog_92_method_13_code (2 : Nat) (Option.some Jvm.ClassFile.FieldType.boolean), Jvm.Cond.code ({ cls := "java/util/ArrayList", name := "add", desc := "(Ljava/lang/Object;)Z" } : Jvm.MethodName) jdk_38_method_25_code (2 : Nat) (Option.some Jvm.ClassFile.FieldType.boolean), Jvm.Cond.code ({ cls := "java/util/ArrayList", name := "add", desc := "(Ljava/lang/Object;[Ljava/lang/Object;I)V" } : Jvm.MethodName) jdk_38_method_24_code (4 : Nat) (Option.none : Option Jvm.ClassFile.FieldType), Jvm.Cond.code ({ cls := "java/util/ArrayList", name := "grow", desc := "()[Ljava/lang/Object;" } : Jvm.MethodName) jdk_38_method_7_code (1 : Nat) (Option.some (Jvm.ClassFile.FieldType.array (Jvm.ClassFile.FieldType.object "java/lang/Object"))), Jvm.Cond.code ({ cls := "java/util/ArrayList", name := "grow", desc := "(I)[Ljava/lang/Object;" } : Jvm.MethodName) jdk_38_method_6_code (4 : Nat) (Option.some (Jvm.ClassFile.FieldType.array (Jvm.ClassFile.FieldType.object "java/lang/Object"))), Jvm.Cond.code ({ cls := "java/lang/Math", name := "max", desc := "(II)I" } : Jvm.MethodName) jdk_29_method_65_code (2 : Nat) (Option.some Jvm.ClassFile.FieldType.int), Jvm.Cond.code ({ cls := "com/example/nasute/nasute/sql/TokenCursor", name := "next", desc := "()Lcom/example/nasute/nasute/sql/Token;" } : Jvm.MethodName) prog_92_method_4_code (2 : Nat) (Option.some (Jvm.ClassFile.FieldType.object "com/example/nasute/nasute/sql/Token")), Jvm.Cond.code ({ cls := "com/example/nasute/nasute/sql/TokenCursor", name := "peek", desc := "()Lcom/example/nasute/nasute/sql/Token;" } : Jvm.MethodName) prog_92_method_2_code (1 : Nat) (Option.some (Jvm.ClassFile.FieldType.object "com/example/nasute/nasute/sql/Token")), Jvm.Cond.code ({ cls := "java/util/ArrayList", name := "get", desc := "(I)Ljava/lang/Object;" } : Jvm.MethodName) jdk_38_method_20_code (2 : Nat) (Option.some (Jvm.ClassFile.FieldType.object "java/lang/Object")), Jvm.Cond.code ({ cls := "java/util/Objects", name := "checkIndex", desc := "(II)I" } : Jvm.MethodName) jdk_31_method_17_code (2 : Nat) (Option.some Jvm.ClassFile.FieldType.int), Jvm.Cond.code ({ cls := "jdk/internal/util/Preconditions", name := "checkIndex", desc := "(IILjava/util/function/BiFunction;)I" } : Jvm.MethodName) jdk_41_method_11_code (3 : Nat) (Option.some Jvm.ClassFile.FieldType.int), Jvm.Cond.code ({ cls := "java/util/ArrayList", name := "elementData", desc := "(I)Ljava/lang/Object;" } : Jvm.MethodName) jdk_38_method_18_code (2 : Nat) (Option.some (Jvm.ClassFile.FieldType.object "java/lang/Object"))]
set_option maxRecDepth 65536 in
theorem codes_eq : words1.filter isCode = codes1 := rfl
theorem w_codes : ∀ c ∈ words1.filter isCode, c.before args0 about1 = true := by
  rw [codes_eq]
  intro c hc
  simp only [codes1, List.mem_cons, List.not_mem_nil, or_false] at hc
  rcases hc with rfl | rfl | rfl | rfl | rfl | rfl | rfl | rfl | rfl | rfl | rfl | rfl | rfl | rfl | rfl | rfl | rfl | rfl | rfl | rfl | rfl | rfl | rfl | rfl | rfl | rfl | rfl | rfl | rfl | rfl
  · exact w_c0
  · exact w_c1
  · exact w_c2
  · exact w_c3
  · exact w_c4
  · exact w_c5
  · exact w_c6
  · exact w_c7
  · exact w_c8
  · exact w_c9
  · exact w_c10
  · exact w_c11
  · exact w_c12
  · exact w_c13
  · exact w_c14
  · exact w_c15
  · exact w_c16
  · exact w_c17
  · exact w_c18
  · exact w_c19
  · exact w_c20
  · exact w_c21
  · exact w_c22
  · exact w_c23
  · exact w_c24
  · exact w_c25
  · exact w_c26
  · exact w_c27
  · exact w_c28
  · exact w_c29
set_option maxRecDepth 65536 in
theorem w_t1 : (words1.take 24).all (fun c => isCode c || c.before args0 about1) = true := by decide +kernel
set_option maxRecDepth 65536 in
theorem w_t2 : ((words1.drop 24).take 24).all (fun c => isCode c || c.before args0 about1) = true := by decide +kernel
set_option maxRecDepth 65536 in
theorem w_t3 : (((words1.drop 24).drop 24).take 24).all (fun c => isCode c || c.before args0 about1) = true := by decide +kernel
set_option maxRecDepth 65536 in
theorem w_t4 : ((((words1.drop 24).drop 24).drop 24).take 24).all (fun c => isCode c || c.before args0 about1) = true := by decide +kernel
set_option maxRecDepth 65536 in
theorem w_t5 : (((((words1.drop 24).drop 24).drop 24).drop 24).take 24).all (fun c => isCode c || c.before args0 about1) = true := by decide +kernel
set_option maxRecDepth 65536 in
theorem w_t6 : ((((((words1.drop 24).drop 24).drop 24).drop 24).drop 24).take 24).all (fun c => isCode c || c.before args0 about1) = true := by decide +kernel
set_option maxRecDepth 65536 in
theorem w_t7 : (((((((words1.drop 24).drop 24).drop 24).drop 24).drop 24).drop 24).take 24).all (fun c => isCode c || c.before args0 about1) = true := by decide +kernel
set_option maxRecDepth 65536 in
theorem w_t8 : ((((((((words1.drop 24).drop 24).drop 24).drop 24).drop 24).drop 24).drop 24).take 24).all (fun c => isCode c || c.before args0 about1) = true := by decide +kernel
set_option maxRecDepth 65536 in
theorem w_t9 : ((((((((words1.drop 24).drop 24).drop 24).drop 24).drop 24).drop 24).drop 24).drop 24).all (fun c => isCode c || c.before args0 about1) = true := by decide +kernel
theorem w_tables : (allAtoms (Jvm.Cond.code x code maxLocals ret :: tables_1)).before args0 about1 = true := by
  rw [allAtoms_all]
  show words1.all (fun c => c.before args0 about1) = true
  refine all_split ?_ w_codes
  rw [← List.take_append_drop 24 words1, List.all_append, w_t1, ← List.take_append_drop 24 (words1.drop 24), List.all_append, w_t2, ← List.take_append_drop 24 ((words1.drop 24).drop 24), List.all_append, w_t3, ← List.take_append_drop 24 (((words1.drop 24).drop 24).drop 24), List.all_append, w_t4, ← List.take_append_drop 24 ((((words1.drop 24).drop 24).drop 24).drop 24), List.all_append, w_t5, ← List.take_append_drop 24 (((((words1.drop 24).drop 24).drop 24).drop 24).drop 24), List.all_append, w_t6, ← List.take_append_drop 24 ((((((words1.drop 24).drop 24).drop 24).drop 24).drop 24).drop 24), List.all_append, w_t7, ← List.take_append_drop 24 (((((((words1.drop 24).drop 24).drop 24).drop 24).drop 24).drop 24).drop 24), List.all_append, w_t8, w_t9]
  rfl
set_option maxRecDepth 65536 in
theorem w_rest : rest_1_c.before args0 about1 = true := by decide +kernel
set_option maxRecDepth 65536 in
theorem w_case : (Jvm.Cond.and given_1 narrow_1).before args0 about1 = true := by decide +kernel
theorem w_applies : (headSpec (Jvm.Cond.code x code maxLocals ret :: tables_1) room_1).applies x e0.platform about1 = true :=
  (Spec.applies_iff w_frames).mpr ⟨w_running, w_runnable, w_alone, w_named, w_hears, w_ripe, w_room, w_tables⟩
theorem atStart : AtStart classFile x code maxLocals ret World_1 tables_1 room_1 Calls_1 rest_1 Pre_1 launch0 p0 e0 about1 theMethod args0 below0 :=
  ⟨lists_1, trivial, launch0.admits_env _ _ _, launch0.least_env, fairChoices_fair.cas, fairChoices_fair.clock, w_frames, w_args, w_heap, w_applies, trivial, w_rest, w_case⟩
end start1
theorem witness_1 : WitnessClaimed_1 := ⟨start1.p0, start1.e0, start1.about1, start1.theMethod, start1.args0, start1.below0, start1.atStart⟩
end Jvm.Pilot.@@N@@
