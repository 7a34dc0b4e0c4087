import JvmDerived
import JvmDerived.Pilot.@@N@@Statement
import JvmDerived.Pilot.@@N@@Code
set_option linter.unusedVariables false
set_option linter.unusedSimpArgs false
namespace Jvm.RoadKit
open Sem ClassFile Op Lib Jvm.Stand Jvm.Free Jvm.LawKit
section New
variable {p : Program} {l : Launch} {e : Env} {R : Room} {s : State} {m : MethodId} {args : Array Value} {below : List Frame} {meth : Method} {c : Code} {T : State} {locs : List Loc} {cells slots : Nat}
theorem retI (X : Stand p l e R s m args below meth c T locs cells slots) (hx : p.tables.exec = Jvm.exec) {pc : Nat} {Ls : Array Slot} {z : Int32} {rest : List Value} (hret : meth.sig.returnType = some .int) (hd : decode c.code pc = .ok (.ireturn, 1)) {fs : List Frame}
    (hl : ∀ (f : JFrame) (acts : List Action), f.method = m → f.locked = none → f.entered = [] → (doReturn e (T.setTop f) acts (some (.int z))).1 = T.setFrames fs) : Steps p.tables e below (T.setTop (mkF m pc Ls (.int z :: rest))) (T.setFrames fs) := by
  have hm' : T.vm.method? m = some meth := X.method'
  have hn : narrow .int (.int z) = .int z := rfl
  show Steps p.tables e below (T.setTop { method := m, pc := pc, locals := Ls, stack := _ :: rest, locked := none }) _
  jvm_step X.here [X.here.top, hx, hd, hm', hret, hn]
  first | (intro acts; rw [hl _ acts rfl rfl rfl]) | rw [hl _ _ rfl rfl rfl]
  exact Steps.refl _
theorem own_retA (X : Stand p l e R s m args below meth c T locs cells slots) (hx : p.tables.exec = Jvm.exec) {pc : Nat} {Ls : Array Slot} {v : Value} {t : FieldType} {rest : List Value} (hv : v.isRef = true) (hret : meth.sig.returnType = some t) (ht : t.isReference = true) (hd : decode c.code pc = .ok (.areturn, 1)) {fs : List Frame}
    (hl : ∀ (f : JFrame) (acts : List Action), f.method = m → f.locked = none → f.entered = [] → (doReturn e (T.setTop f) acts (some v)).1 = T.setFrames fs) : Steps p.tables e below (T.setTop (mkF m pc Ls (v :: rest))) (T.setFrames fs) := by
  have hm' : T.vm.method? m = some meth := X.method'
  show Steps p.tables e below (T.setTop { method := m, pc := pc, locals := Ls, stack := _ :: rest, locked := none }) _
  jvm_step X.here [X.here.top, hx, hd, hm', hret, hv, ht]
  first | (intro acts; rw [hl _ acts rfl rfl rfl]) | rw [hl _ _ rfl rfl rfl]
  exact Steps.refl _
theorem own_go {tb : Tables} {e : Env} {below : List Frame} {A B : State} {P : State → Outcome → Prop} (k : ∀ t, Steps tb e below B t → Steps tb e below A t) (h : ∃ s₂ o, Steps tb e below B s₂ ∧ P s₂ o) : ∃ s₂ o, Steps tb e below A s₂ ∧ P s₂ o := by
  obtain ⟨t, o, h1, h2⟩ := h
  exact ⟨t, o, k t h1, h2⟩
theorem own_abs {tb : Tables} {e : Env} {below : List Frame} {A : State} {P0 : State → Outcome → Prop} (h : ∀ P : State → Outcome → Prop, (∀ s₂ o, P0 s₂ o → P s₂ o) → ∃ s₂ o, Steps tb e below A s₂ ∧ P s₂ o) : ∃ s₂ o, Steps tb e below A s₂ ∧ P0 s₂ o := h P0 fun _ _ q => q
theorem own_oldsz {Z : State} {n0 : Nat} {h : Heap} (O : Old Z n0 h) : n0 ≤ h.size := O.1 ▸ O.2.1
theorem own_b255 (x : Int32) : ¬ (x &&& (255 : Int32)) < 0 ∧ ¬ (255 : Int32) < (x &&& (255 : Int32)) := by
  have h := c_and x 255 (by decide)
  have e : (255 : Int32).toInt = 255 := rfl
  have e0 : (0 : Int32).toInt = 0 := rfl
  rw [Int32.lt_iff_toInt_lt, Int32.lt_iff_toInt_lt]
  omega
theorem own_nc2 (x : Int32) : nar .char (x.toUInt32.toUInt16.toUInt32.toInt32) = x.toUInt32.toUInt16.toUInt32.toInt32 := by
  show (((x.toUInt32.toUInt16.toUInt32).toInt32).toUInt32).toUInt16.toUInt32.toInt32 = _
  rw [UInt32.toUInt32_toInt32, UInt16.toUInt16_toUInt32]
theorem own_nb2 (x : Int32) : x.toInt8.toInt32.toInt8.toInt32 = x.toInt8.toInt32 := by simp
/-- a String's bytes, of its chars -/
abbrev own_bs (cs : List Int32) : List Value := (cs.map fun c => c.toInt8.toInt32).map Value.int
theorem own_narR {v : Value} {t : FieldType} (hv : v.isRef = true) : narrow t v = v := by cases v <;> simp [Value.isRef] at hv <;> cases t <;> rfl
theorem own_fitR {v : Value} {s : String} (hv : v.isRef = true) : fits (.object s) v = true := by cases v <;> simp [Value.isRef] at hv <;> rfl
end New
end Jvm.RoadKit
namespace Jvm.Pilot.@@N@@
open Jvm Jvm.ClassFile Sem Op Lib Jvm.Free Jvm.Stand Jvm.LawKit Jvm.RoadKit Bundle Jvm.Pilot.@@N@@.Jvm.D
theorem d_prog_2_method_1_0 : decode prog_2_method_1_code 0 = .ok (.aload_n 0, 1) := by decide +kernel
theorem d_prog_2_method_1_1 : decode prog_2_method_1_code 1 = .ok (.invokespecial 1, 3) := by decide +kernel
theorem d_prog_2_method_1_4 : decode prog_2_method_1_code 4 = .ok (.aload_n 0, 1) := by decide +kernel
theorem d_prog_2_method_1_5 : decode prog_2_method_1_code 5 = .ok (.aconst_null, 1) := by decide +kernel
theorem d_prog_2_method_1_6 : decode prog_2_method_1_code 6 = .ok (.putfield 7, 3) := by decide +kernel
theorem d_prog_2_method_1_9 : decode prog_2_method_1_code 9 = .ok (.return_, 1) := by decide +kernel
theorem pn_0 : plainName "com/example/fixity/fixity/engine/AccountRequest" = true := by first | (simp [plainName, overriddenIn]; done) | decide +kernel
theorem d_jdk_31_method_11_0 : decode jdk_31_method_11_code 0 = .ok (.aload_n 0, 1) := by decide +kernel
theorem d_jdk_31_method_11_1 : decode jdk_31_method_11_code 1 = .ok (.ifnonnull 12, 3) := by decide +kernel
theorem d_jdk_31_method_11_13 : decode jdk_31_method_11_code 13 = .ok (.aload_n 0, 1) := by decide +kernel
theorem d_jdk_31_method_11_14 : decode jdk_31_method_11_code 14 = .ok (.areturn, 1) := by decide +kernel
theorem pn_1 : plainName "java/util/Objects" = true := by first | (simp [plainName, overriddenIn]; done) | decide +kernel
theorem d_jdk_32_method_2_0 : decode jdk_32_method_2_code 0 = .ok (.aload_n 0, 1) := by decide +kernel
theorem d_jdk_32_method_2_1 : decode jdk_32_method_2_code 1 = .ok (.invokespecial 7, 3) := by decide +kernel
theorem d_jdk_32_method_2_4 : decode jdk_32_method_2_code 4 = .ok (.aload_n 0, 1) := by decide +kernel
theorem d_jdk_32_method_2_5 : decode jdk_32_method_2_code 5 = .ok (.aload_n 1, 1) := by decide +kernel
theorem d_jdk_32_method_2_6 : decode jdk_32_method_2_code 6 = .ok (.putfield 13, 3) := by decide +kernel
theorem d_jdk_32_method_2_9 : decode jdk_32_method_2_code 9 = .ok (.return_, 1) := by decide +kernel
theorem pn_2 : plainName "java/util/Optional" = true := by first | (simp [plainName, overriddenIn]; done) | decide +kernel
theorem d_jdk_32_method_4_0 : decode jdk_32_method_4_code 0 = .ok (.aload_n 0, 1) := by decide +kernel
theorem d_jdk_32_method_4_1 : decode jdk_32_method_4_code 1 = .ok (.ifnonnull 9, 3) := by decide +kernel
theorem d_jdk_32_method_4_10 : decode jdk_32_method_4_code 10 = .ok (.new 2, 3) := by decide +kernel
theorem d_jdk_32_method_4_13 : decode jdk_32_method_4_code 13 = .ok (.dup, 1) := by decide +kernel
theorem d_jdk_32_method_4_14 : decode jdk_32_method_4_code 14 = .ok (.aload_n 0, 1) := by decide +kernel
theorem d_jdk_32_method_4_15 : decode jdk_32_method_4_code 15 = .ok (.invokespecial 23, 3) := by decide +kernel
theorem pd_0 : parseMethodDescriptor "(Ljava/lang/Object;)V" = some ⟨[(.object "java/lang/Object")], none⟩ := by decide +kernel
theorem d_jdk_32_method_4_18 : decode jdk_32_method_4_code 18 = .ok (.areturn, 1) := by decide +kernel
theorem d_jdk_32_method_4_4 : decode jdk_32_method_4_code 4 = .ok (.getstatic 1, 3) := by decide +kernel
theorem d_jdk_32_method_4_7 : decode jdk_32_method_4_code 7 = .ok (.goto 11, 3) := by decide +kernel
theorem d_prog_2_method_16_0 : decode prog_2_method_16_code 0 = .ok (.aload_n 0, 1) := by decide +kernel
theorem d_prog_2_method_16_1 : decode prog_2_method_16_code 1 = .ok (.getfield 61, 3) := by decide +kernel
theorem d_prog_2_method_16_4 : decode prog_2_method_16_code 4 = .ok (.invokestatic 63, 3) := by decide +kernel
theorem pd_1 : parseMethodDescriptor "(Ljava/lang/Object;)Ljava/util/Optional;" = some ⟨[(.object "java/lang/Object")], some (.object "java/util/Optional")⟩ := by decide +kernel
theorem d_prog_2_method_16_7 : decode prog_2_method_16_code 7 = .ok (.areturn, 1) := by decide +kernel
theorem d_prog_2_method_11_0 : decode prog_2_method_11_code 0 = .ok (.aload_n 0, 1) := by decide +kernel
theorem d_prog_2_method_11_1 : decode prog_2_method_11_code 1 = .ok (.getfield 28, 3) := by decide +kernel
theorem d_prog_2_method_11_4 : decode prog_2_method_11_code 4 = .ok (.invokestatic 63, 3) := by decide +kernel
theorem d_prog_2_method_11_7 : decode prog_2_method_11_code 7 = .ok (.areturn, 1) := by decide +kernel
theorem d_prog_2_method_10_0 : decode prog_2_method_10_code 0 = .ok (.aload_n 0, 1) := by decide +kernel
theorem d_prog_2_method_10_1 : decode prog_2_method_10_code 1 = .ok (.getfield 7, 3) := by decide +kernel
theorem d_prog_2_method_10_4 : decode prog_2_method_10_code 4 = .ok (.invokestatic 63, 3) := by decide +kernel
theorem d_prog_2_method_10_7 : decode prog_2_method_10_code 7 = .ok (.areturn, 1) := by decide +kernel
theorem d_jdk_32_method_15_0 : decode jdk_32_method_15_code 0 = .ok (.aload_n 0, 1) := by decide +kernel
theorem d_jdk_32_method_15_1 : decode jdk_32_method_15_code 1 = .ok (.getfield 13, 3) := by decide +kernel
theorem d_jdk_32_method_15_4 : decode jdk_32_method_15_code 4 = .ok (.ifnull 10, 3) := by decide +kernel
theorem d_jdk_32_method_15_7 : decode jdk_32_method_15_code 7 = .ok (.aload_n 0, 1) := by decide +kernel
theorem d_jdk_32_method_15_8 : decode jdk_32_method_15_code 8 = .ok (.getfield 13, 3) := by decide +kernel
theorem d_jdk_32_method_15_11 : decode jdk_32_method_15_code 11 = .ok (.goto 4, 3) := by decide +kernel
theorem d_jdk_32_method_15_15 : decode jdk_32_method_15_code 15 = .ok (.areturn, 1) := by decide +kernel
theorem d_jdk_32_method_15_14 : decode jdk_32_method_15_code 14 = .ok (.aload_n 1, 1) := by decide +kernel
theorem d_prog_2_method_9_0 : decode prog_2_method_9_code 0 = .ok (.aload_n 0, 1) := by decide +kernel
theorem d_prog_2_method_9_1 : decode prog_2_method_9_code 1 = .ok (.aload_n 1, 1) := by decide +kernel
theorem d_prog_2_method_9_2 : decode prog_2_method_9_code 2 = .ok (.ldc 57, 2) := by decide +kernel
theorem d_prog_2_method_9_4 : decode prog_2_method_9_code 4 = .ok (.invokestatic 15, 3) := by decide +kernel
theorem pd_2 : parseMethodDescriptor "(Ljava/lang/Object;Ljava/lang/String;)Ljava/lang/Object;" = some ⟨[(.object "java/lang/Object"), (.object "java/lang/String")], some (.object "java/lang/Object")⟩ := by decide +kernel
theorem d_prog_2_method_9_7 : decode prog_2_method_9_code 7 = .ok (.checkcast 59, 3) := by decide +kernel
theorem d_prog_2_method_9_10 : decode prog_2_method_9_code 10 = .ok (.putfield 61, 3) := by decide +kernel
theorem d_prog_2_method_9_13 : decode prog_2_method_9_code 13 = .ok (.aload_n 0, 1) := by decide +kernel
theorem d_prog_2_method_9_14 : decode prog_2_method_9_code 14 = .ok (.areturn, 1) := by decide +kernel
theorem pd_3 : parseMethodDescriptor "()V" = some ⟨[], none⟩ := by decide +kernel
theorem pd_4 : parseMethodDescriptor "([C)Lcom/example/fixity/fixity/engine/AccountRequest;" = some ⟨[(.array .char)], some (.object "com/example/fixity/fixity/engine/AccountRequest")⟩ := by decide +kernel
theorem pd_5 : parseMethodDescriptor "()Ljava/util/Optional;" = some ⟨[], some (.object "java/util/Optional")⟩ := by decide +kernel
theorem pd_6 : parseMethodDescriptor "(Ljava/lang/Object;)Ljava/lang/Object;" = some ⟨[(.object "java/lang/Object")], some (.object "java/lang/Object")⟩ := by decide +kernel
theorem pn_3 : plainName "com/example/fixity/fixity/engine/AccountRequestPasswordPinLaw" = true := by first | (simp [plainName, overriddenIn]; done) | decide +kernel
def QInit (Z : State) (a : Addr) (h0 : Heap) (n0 : Nat) (v : Option Value) (h : Heap) (L : List Loc) : Prop := v = none ∧ Fr n0 L ∧ Keep h0 h [a] ∧ Fld Z h a "com/example/fixity/fixity/engine/AccountRequest" "unreadable" "Ljava/lang/String;" .null ∧ Fld Z h a "com/example/fixity/fixity/engine/AccountRequest" "role" "Ljava/lang/String;" .null ∧ Fld Z h a "com/example/fixity/fixity/engine/AccountRequest" "password" "[C" .null
theorem ef_Init (m : MethodId) (a : Addr) : entryFrame m #[(.ref a)] 1 = mkF m 0 #[.val (.ref a)] [] := by first | (simp [entryFrame, mkF, argsToLocals, Value.category]; done) | rfl | (rfl)
set_option maxRecDepth 65536 in
set_option maxHeartbeats 40000000 in
theorem rmInit (l : Launch) (Z : State) (a0 : Array Value) (hw : ∀ d ∈ tables_1, d.before a0 Z = true) (ws : List Jvm.Cond) (a : Addr) (h0 : Heap) (n0 : Nat) (O : Old Z n0 h0) (E : Exa Z h0 a "com/example/fixity/fixity/engine/AccountRequest") (F_unreadable : Fld Z h0 a "com/example/fixity/fixity/engine/AccountRequest" "unreadable" "Ljava/lang/String;" .null) (F_role : Fld Z h0 a "com/example/fixity/fixity/engine/AccountRequest" "role" "Ljava/lang/String;" .null) (F_password : Fld Z h0 a "com/example/fixity/fixity/engine/AccountRequest" "password" "[C" .null) (ga : n0 ≤ a) :
    MetFree l (⟨"com/example/fixity/fixity/engine/AccountRequest", "<init>", "()V"⟩ : MethodName) (head1 (Jvm.Cond.code (⟨"com/example/fixity/fixity/engine/AccountRequest", "<init>", "()V"⟩ : MethodName) prog_2_method_1_code 1 none :: ws) ({ frames := 1, cells := 0, slots := 0, locals := 12 } : Room)) (fun as_ U => as_ = #[(.ref a)] ∧ Z.Warmed39 U.vm ∧ U.heap = h0) (fun _ _ _ _ _ => True) (fun _ U oo_ U' => ∃ vv_ LL_, oo_ = .returned vv_ ∧ QInit Z a h0 n0 vv_ U'.heap LL_ ∧ FrameEnd U oo_ U' LL_ ({ frames := 1, cells := 0, slots := 0, locals := 12 } : Room).cells ({ frames := 1, cells := 0, slots := 0, locals := 12 } : Room).slots) := by
  refine MetFree.of_bodySF (plainFor_of_name pn_0) hisR ?_
  intro p e s m args below meth c s₁ Bd hml0 hP hK
  obtain ⟨rfl, hZ, hh⟩ := hP
  have hx := Bd.exec
  have hby := Bd.bytes
  have hml : c.maxLocals = 1 := hml0
  have hown : s.vm.findClass "com/example/fixity/fixity/engine/AccountRequest" = some m.cls := findClass_of_methodNamed Bd.named
  have hnm := (name_of_methodNamed Bd.named Bd.method).1
  have X0 : Stand p l e ({ frames := 1, cells := 0, slots := 0, locals := 12 } : Room) s m #[(.ref a)] below meth c s₁ [] 0 0 := Stand.of_body Bd
  have e0 : s₁.heap = h0 := by rw [← hh, Bd.state]; rfl
  have N := Fr.nil n0
  have K : Keep h0 h0 [a] := Keep.refl h0 _
  refine own_go (B := s₁.setTop (mkF m 0 #[.val (.ref a)] [])) (fun t k => castTop (ef_Init m a) k) ?_
  refine own_abs (fun P hfin => ?_)
  refine own_go (B := s₁.setTop (mkF m 1 #[.val (.ref a)] [(.ref a)])) (fun t k => ?_) ?_
  · show Steps p.tables e below (s₁.setTop (mkF m 0 #[.val (.ref a)] [])) _
    refine XS.aloadN X0.here hx rfl (hb hby d_prog_2_method_1_0) rfl rfl ?_
    show Steps p.tables e below (s₁.setTop (mkF m 1 #[.val (.ref a)] [(.ref a)])) _
    exact k
  obtain ⟨T1, X1, e1, st1⟩ := initO X0 hx hZ hown (hw _ (List.mem_of_getElem? (i := 8) rfl)) (hw _ (List.mem_of_getElem? (i := 9) rfl)) (hw _ (List.mem_of_getElem? (i := 10) rfl)) e0 (g := (mkF m 1 #[.val (.ref a)] [(.ref a)])) rfl (by rw [hml]; rfl) rfl (hb hby d_prog_2_method_1_1) (by decide) (W := 0) (by show 2 * 0 + _ ≤ _; exact Nat.le_of_eq rfl) (by decide)
  refine own_go (B := T1.setTop (mkF m 4 #[.val (.ref a)] [])) st1 ?_
  refine own_go (B := T1.setTop (mkF m 6 #[.val (.ref a)] [.null, (.ref a)])) (fun t k => ?_) ?_
  · show Steps p.tables e below (T1.setTop (mkF m 4 #[.val (.ref a)] [])) _
    refine XS.aloadN X1.here hx rfl (hb hby d_prog_2_method_1_4) rfl rfl ?_
    show Steps p.tables e below (T1.setTop (mkF m 5 #[.val (.ref a)] [(.ref a)])) _
    refine XS.aconstNull X1.here hx rfl (hb hby d_prog_2_method_1_5) ?_
    show Steps p.tables e below (T1.setTop (mkF m 6 #[.val (.ref a)] [.null, (.ref a)])) _
    exact k
  obtain ⟨T2, h2, X2, e2, W2, st2⟩ := putF X1 hx hZ hown (host := "") (Or.inl (hw _ (List.mem_of_getElem? (i := 11) rfl))) Via.refl e1 F_unreadable E (Or.inr ⟨(hw _ (List.mem_of_getElem? (i := 12) rfl)), rfl, hnm⟩) (hw _ (List.mem_of_getElem? (i := 3) rfl)) (ty := (.object "java/lang/String")) (by decide) rfl rfl (g := (mkF m 6 #[.val (.ref a)] [.null, (.ref a)])) rfl rfl (hb hby d_prog_2_method_1_6)
  have Fw2 := F_unreadable.same W2
  replace E := E.wr W2
  clear F_unreadable
  replace F_role := F_role.other W2 (Or.inr (slot_ne (Or.inl (hw _ (List.mem_of_getElem? (i := 64) rfl))) (Or.inr (hw _ (List.mem_of_getElem? (i := 12) rfl))) (by decide) (t := (.object "java/lang/String")) (t' := (.object "java/lang/String")) (by decide) (by decide)))
  replace F_password := F_password.other W2 (Or.inr (slot_ne (Or.inl (hw _ (List.mem_of_getElem? (i := 33) rfl))) (Or.inr (hw _ (List.mem_of_getElem? (i := 12) rfl))) (by decide) (t := (.array .char)) (t' := (.object "java/lang/String")) (by decide) (by decide)))
  replace O := O.wr W2 ga
  replace K := K.wr W2 (Or.inl (List.mem_of_getElem? (i := 0) rfl))
  replace N := Fr.snoc X2 N ga
  refine own_go (B := T2.setTop (mkF m 9 #[.val (.ref a)] [])) st2 ?_
  obtain ⟨fs, hr, hrun, hended, hW, hsame⟩ := X2.leave (v := none) (fun _ => rfl)
  refine ⟨_, _, X2.returnOut hx Bd.returns (hb hby d_prog_2_method_1_9) hr, hfin _ _ ⟨hrun, hended, _, _, rfl, ?_, ⟨_, rfl⟩, hW, hsame.mono (by decide) (by decide)⟩⟩
  show QInit Z a h0 n0 _ T2.heap _
  rw [e2]
  exact ⟨rfl, N, K, Fw2, F_role, F_password⟩
def QRnn (Z : State) (o : Addr) (mm : Addr) (h0 : Heap) (n0 : Nat) (v : Option Value) (h : Heap) (L : List Loc) : Prop := v = some (.ref o) ∧ Fr n0 L ∧ h = h0
theorem ef_Rnn (m : MethodId) (o : Addr) (mm : Addr) : entryFrame m #[(.ref o), (.ref mm)] 2 = mkF m 0 #[.val (.ref o), .val (.ref mm)] [] := by first | (simp [entryFrame, mkF, argsToLocals, Value.category]; done) | rfl | (rfl)
set_option maxRecDepth 65536 in
set_option maxHeartbeats 40000000 in
theorem rmRnn (l : Launch) (Z : State) (a0 : Array Value) (hw : ∀ d ∈ tables_1, d.before a0 Z = true) (ws : List Jvm.Cond) (o : Addr) (mm : Addr) (h0 : Heap) (n0 : Nat) (O : Old Z n0 h0)  :
    MetFree l (⟨"java/util/Objects", "requireNonNull", "(Ljava/lang/Object;Ljava/lang/String;)Ljava/lang/Object;"⟩ : MethodName) (head1 (Jvm.Cond.code (⟨"java/util/Objects", "requireNonNull", "(Ljava/lang/Object;Ljava/lang/String;)Ljava/lang/Object;"⟩ : MethodName) jdk_31_method_11_code 2 (some (.object "java/lang/Object")) :: ws) ({ frames := 0, cells := 0, slots := 0, locals := 0 } : Room)) (fun as_ U => as_ = #[(.ref o), (.ref mm)] ∧ Z.Warmed39 U.vm ∧ U.heap = h0) (fun _ _ _ _ _ => True) (fun _ U oo_ U' => ∃ vv_ LL_, oo_ = .returned vv_ ∧ QRnn Z o mm h0 n0 vv_ U'.heap LL_ ∧ FrameEnd U oo_ U' LL_ ({ frames := 0, cells := 0, slots := 0, locals := 0 } : Room).cells ({ frames := 0, cells := 0, slots := 0, locals := 0 } : Room).slots) := by
  refine MetFree.of_bodySF (plainFor_of_name pn_1) hisR ?_
  intro p e s m args below meth c s₁ Bd hml0 hP hK
  obtain ⟨rfl, hZ, hh⟩ := hP
  have hx := Bd.exec
  have hby := Bd.bytes
  have hml : c.maxLocals = 2 := hml0
  have hown : s.vm.findClass "java/util/Objects" = some m.cls := findClass_of_methodNamed Bd.named
  have hnm := (name_of_methodNamed Bd.named Bd.method).1
  have X0 : Stand p l e ({ frames := 0, cells := 0, slots := 0, locals := 0 } : Room) s m #[(.ref o), (.ref mm)] below meth c s₁ [] 0 0 := Stand.of_body Bd
  have e0 : s₁.heap = h0 := by rw [← hh, Bd.state]; rfl
  have N := Fr.nil n0
  have K : Keep h0 h0 [] := Keep.refl h0 _
  refine own_go (B := s₁.setTop (mkF m 0 #[.val (.ref o), .val (.ref mm)] [])) (fun t k => castTop (ef_Rnn m o mm) k) ?_
  refine own_abs (fun P hfin => ?_)
  refine own_go (B := s₁.setTop (mkF m 14 #[.val (.ref o), .val (.ref mm)] [(.ref o)])) (fun t k => ?_) ?_
  · show Steps p.tables e below (s₁.setTop (mkF m 0 #[.val (.ref o), .val (.ref mm)] [])) _
    refine XS.aloadN X0.here hx rfl (hb hby d_jdk_31_method_11_0) rfl rfl ?_
    show Steps p.tables e below (s₁.setTop (mkF m 1 #[.val (.ref o), .val (.ref mm)] [(.ref o)])) _
    refine XT.ifnonnullYes X0.here hx rfl (pc0 := 1) (pc' := 13) rfl (hb hby d_jdk_31_method_11_1) rfl (by decide) (by decide) ?_
    show Steps p.tables e below (s₁.setTop (mkF m 13 #[.val (.ref o), .val (.ref mm)] [])) _
    refine XS.aloadN X0.here hx rfl (hb hby d_jdk_31_method_11_13) rfl rfl ?_
    show Steps p.tables e below (s₁.setTop (mkF m 14 #[.val (.ref o), .val (.ref mm)] [(.ref o)])) _
    exact k
  obtain ⟨fs, hr, hrun, hended, hW, hsame⟩ := X0.leave (v := some (.ref o)) (fun h => by rw [Bd.returns] at h; cases h)
  refine ⟨_, _, own_retA X0 hx rfl Bd.returns rfl (hb hby d_jdk_31_method_11_14) hr, hfin _ _ ⟨hrun, hended, _, _, rfl, ?_, ⟨_, rfl⟩, hW, hsame.mono (by decide) (by decide)⟩⟩
  show QRnn Z o mm h0 n0 _ s₁.heap _
  exact ⟨rfl, N, e0⟩
def QOptI (Z : State) (a : Addr) (o : Addr) (h0 : Heap) (n0 : Nat) (v : Option Value) (h : Heap) (L : List Loc) : Prop := v = none ∧ Fr n0 L ∧ Keep h0 h [a] ∧ Fld Z h a "java/util/Optional" "value" "Ljava/lang/Object;" (.ref o)
theorem ef_OptI (m : MethodId) (a : Addr) (o : Addr) : entryFrame m #[(.ref a), (.ref o)] 2 = mkF m 0 #[.val (.ref a), .val (.ref o)] [] := by first | (simp [entryFrame, mkF, argsToLocals, Value.category]; done) | rfl | (rfl)
set_option maxRecDepth 65536 in
set_option maxHeartbeats 40000000 in
theorem rmOptI (l : Launch) (Z : State) (a0 : Array Value) (hw : ∀ d ∈ tables_1, d.before a0 Z = true) (ws : List Jvm.Cond) (a : Addr) (o : Addr) (h0 : Heap) (n0 : Nat) (O : Old Z n0 h0) (E : Exa Z h0 a "java/util/Optional") (F : Fld Z h0 a "java/util/Optional" "value" "Ljava/lang/Object;" .null) (ga : n0 ≤ a) :
    MetFree l (⟨"java/util/Optional", "<init>", "(Ljava/lang/Object;)V"⟩ : MethodName) (head1 (Jvm.Cond.code (⟨"java/util/Optional", "<init>", "(Ljava/lang/Object;)V"⟩ : MethodName) jdk_32_method_2_code 2 none :: ws) ({ frames := 1, cells := 0, slots := 0, locals := 12 } : Room)) (fun as_ U => as_ = #[(.ref a), (.ref o)] ∧ Z.Warmed39 U.vm ∧ U.heap = h0) (fun _ _ _ _ _ => True) (fun _ U oo_ U' => ∃ vv_ LL_, oo_ = .returned vv_ ∧ QOptI Z a o h0 n0 vv_ U'.heap LL_ ∧ FrameEnd U oo_ U' LL_ ({ frames := 1, cells := 0, slots := 0, locals := 12 } : Room).cells ({ frames := 1, cells := 0, slots := 0, locals := 12 } : Room).slots) := by
  refine MetFree.of_bodySF (plainFor_of_name pn_2) hisR ?_
  intro p e s m args below meth c s₁ Bd hml0 hP hK
  obtain ⟨rfl, hZ, hh⟩ := hP
  have hx := Bd.exec
  have hby := Bd.bytes
  have hml : c.maxLocals = 2 := hml0
  have hown : s.vm.findClass "java/util/Optional" = some m.cls := findClass_of_methodNamed Bd.named
  have hnm := (name_of_methodNamed Bd.named Bd.method).1
  have X0 : Stand p l e ({ frames := 1, cells := 0, slots := 0, locals := 12 } : Room) s m #[(.ref a), (.ref o)] below meth c s₁ [] 0 0 := Stand.of_body Bd
  have e0 : s₁.heap = h0 := by rw [← hh, Bd.state]; rfl
  have N := Fr.nil n0
  have K : Keep h0 h0 [a] := Keep.refl h0 _
  refine own_go (B := s₁.setTop (mkF m 0 #[.val (.ref a), .val (.ref o)] [])) (fun t k => castTop (ef_OptI m a o) k) ?_
  refine own_abs (fun P hfin => ?_)
  refine own_go (B := s₁.setTop (mkF m 1 #[.val (.ref a), .val (.ref o)] [(.ref a)])) (fun t k => ?_) ?_
  · show Steps p.tables e below (s₁.setTop (mkF m 0 #[.val (.ref a), .val (.ref o)] [])) _
    refine XS.aloadN X0.here hx rfl (hb hby d_jdk_32_method_2_0) rfl rfl ?_
    show Steps p.tables e below (s₁.setTop (mkF m 1 #[.val (.ref a), .val (.ref o)] [(.ref a)])) _
    exact k
  obtain ⟨T1, X1, e1, st1⟩ := initO X0 hx hZ hown (hw _ (List.mem_of_getElem? (i := 49) rfl)) (hw _ (List.mem_of_getElem? (i := 9) rfl)) (hw _ (List.mem_of_getElem? (i := 10) rfl)) e0 (g := (mkF m 1 #[.val (.ref a), .val (.ref o)] [(.ref a)])) rfl (by rw [hml]; rfl) rfl (hb hby d_jdk_32_method_2_1) (by decide) (W := 0) (by show 2 * 0 + _ ≤ _; exact Nat.le_of_eq rfl) (by decide)
  refine own_go (B := T1.setTop (mkF m 4 #[.val (.ref a), .val (.ref o)] [])) st1 ?_
  refine own_go (B := T1.setTop (mkF m 6 #[.val (.ref a), .val (.ref o)] [(.ref o), (.ref a)])) (fun t k => ?_) ?_
  · show Steps p.tables e below (T1.setTop (mkF m 4 #[.val (.ref a), .val (.ref o)] [])) _
    refine XS.aloadN X1.here hx rfl (hb hby d_jdk_32_method_2_4) rfl rfl ?_
    show Steps p.tables e below (T1.setTop (mkF m 5 #[.val (.ref a), .val (.ref o)] [(.ref a)])) _
    refine XS.aloadN X1.here hx rfl (hb hby d_jdk_32_method_2_5) rfl rfl ?_
    show Steps p.tables e below (T1.setTop (mkF m 6 #[.val (.ref a), .val (.ref o)] [(.ref o), (.ref a)])) _
    exact k
  obtain ⟨T2, h2, X2, e2, W2, st2⟩ := putF X1 hx hZ hown (host := "") (Or.inl (hw _ (List.mem_of_getElem? (i := 50) rfl))) Via.refl e1 F E (Or.inr ⟨(hw _ (List.mem_of_getElem? (i := 51) rfl)), rfl, hnm⟩) (hw _ (List.mem_of_getElem? (i := 44) rfl)) (ty := (.object "java/lang/Object")) (by decide) rfl rfl (g := (mkF m 6 #[.val (.ref a), .val (.ref o)] [(.ref o), (.ref a)])) rfl rfl (hb hby d_jdk_32_method_2_6)
  have Fw2 := F.same W2
  replace E := E.wr W2
  clear F
  replace O := O.wr W2 ga
  replace K := K.wr W2 (Or.inl (List.mem_of_getElem? (i := 0) rfl))
  replace N := Fr.snoc X2 N ga
  refine own_go (B := T2.setTop (mkF m 9 #[.val (.ref a), .val (.ref o)] [])) st2 ?_
  obtain ⟨fs, hr, hrun, hended, hW, hsame⟩ := X2.leave (v := none) (fun _ => rfl)
  refine ⟨_, _, X2.returnOut hx Bd.returns (hb hby d_jdk_32_method_2_9) hr, hfin _ _ ⟨hrun, hended, _, _, rfl, ?_, ⟨_, rfl⟩, hW, hsame.mono (by decide) (by decide)⟩⟩
  show QOptI Z a o h0 n0 _ T2.heap _
  rw [e2]
  exact ⟨rfl, N, K, Fw2⟩
def QOfN1 (Z : State) (o : Addr) (h0 : Heap) (n0 : Nat) (v : Option Value) (h : Heap) (L : List Loc) : Prop := ∃ r : Addr, v = some (.ref r) ∧ Fr n0 L ∧ Keep h0 h [] ∧ h0.size ≤ r ∧ Exa Z h r "java/util/Optional" ∧ Fld Z h r "java/util/Optional" "value" "Ljava/lang/Object;" (.ref o)
theorem ef_OfN1 (m : MethodId) (o : Addr) : entryFrame m #[(.ref o)] 1 = mkF m 0 #[.val (.ref o)] [] := by first | (simp [entryFrame, mkF, argsToLocals, Value.category]; done) | rfl | (rfl)
set_option maxRecDepth 65536 in
set_option maxHeartbeats 40000000 in
theorem rmOfN1 (l : Launch) (Z : State) (a0 : Array Value) (hw : ∀ d ∈ tables_1, d.before a0 Z = true) (ws : List Jvm.Cond) (o : Addr) (h0 : Heap) (n0 : Nat) (O : Old Z n0 h0)  :
    MetFree l (⟨"java/util/Optional", "ofNullable", "(Ljava/lang/Object;)Ljava/util/Optional;"⟩ : MethodName) (head1 (Jvm.Cond.code (⟨"java/util/Optional", "ofNullable", "(Ljava/lang/Object;)Ljava/util/Optional;"⟩ : MethodName) jdk_32_method_4_code 1 (some (.object "java/util/Optional")) :: ws) ({ frames := 2, cells := 1, slots := 1, locals := 26 } : Room)) (fun as_ U => as_ = #[(.ref o)] ∧ Z.Warmed39 U.vm ∧ U.heap = h0) (fun _ _ _ _ _ => True) (fun _ U oo_ U' => ∃ vv_ LL_, oo_ = .returned vv_ ∧ QOfN1 Z o h0 n0 vv_ U'.heap LL_ ∧ FrameEnd U oo_ U' LL_ ({ frames := 2, cells := 1, slots := 1, locals := 26 } : Room).cells ({ frames := 2, cells := 1, slots := 1, locals := 26 } : Room).slots) := by
  refine MetFree.of_bodySF (plainFor_of_name pn_2) hisR ?_
  intro p e s m args below meth c s₁ Bd hml0 hP hK
  obtain ⟨rfl, hZ, hh⟩ := hP
  have hx := Bd.exec
  have hby := Bd.bytes
  have hml : c.maxLocals = 1 := hml0
  have hown : s.vm.findClass "java/util/Optional" = some m.cls := findClass_of_methodNamed Bd.named
  have hnm := (name_of_methodNamed Bd.named Bd.method).1
  have X0 : Stand p l e ({ frames := 2, cells := 1, slots := 1, locals := 26 } : Room) s m #[(.ref o)] below meth c s₁ [] 0 0 := Stand.of_body Bd
  have e0 : s₁.heap = h0 := by rw [← hh, Bd.state]; rfl
  have N := Fr.nil n0
  have K : Keep h0 h0 [] := Keep.refl h0 _
  refine own_go (B := s₁.setTop (mkF m 0 #[.val (.ref o)] [])) (fun t k => castTop (ef_OfN1 m o) k) ?_
  refine own_abs (fun P hfin => ?_)
  refine own_go (B := s₁.setTop (mkF m 10 #[.val (.ref o)] [])) (fun t k => ?_) ?_
  · show Steps p.tables e below (s₁.setTop (mkF m 0 #[.val (.ref o)] [])) _
    refine XS.aloadN X0.here hx rfl (hb hby d_jdk_32_method_4_0) rfl rfl ?_
    show Steps p.tables e below (s₁.setTop (mkF m 1 #[.val (.ref o)] [(.ref o)])) _
    refine XT.ifnonnullYes X0.here hx rfl (pc0 := 1) (pc' := 10) rfl (hb hby d_jdk_32_method_4_1) rfl (by decide) (by decide) ?_
    show Steps p.tables e below (s₁.setTop (mkF m 10 #[.val (.ref o)] [])) _
    exact k
  obtain ⟨T1, h1, X1, e1, E1, A1, D1, -, st1⟩ := newO X0 hx hZ hown (hw _ (List.mem_of_getElem? (i := 43) rfl)) (hw _ (List.mem_of_getElem? (i := 44) rfl)) (hw _ (List.mem_of_getElem? (i := 41) rfl)) e0 (g := (mkF m 10 #[.val (.ref o)] [])) rfl (hb hby d_jdk_32_method_4_10) (by decide) (by decide)
  obtain ⟨b1, g1⟩ : ∃ z, z = h0.size := ⟨_, rfl⟩
  rw [← g1] at A1 D1 st1
  have g_b1 : n0 ≤ b1 := Nat.le_trans (own_oldsz O) (Nat.le_of_eq g1.symm)
  have s_b1 : h0.size ≤ b1 := Nat.le_trans K.1 (Nat.le_of_eq g1.symm)
  replace O := O.ext E1
  replace K := K.ext E1
  have F1_value : Fld Z h1 b1 "java/util/Optional" "value" "Ljava/lang/Object;" .null := D1 (Or.inr (hw _ (List.mem_of_getElem? (i := 51) rfl))) (ty := (.object "java/lang/Object")) (by decide)
  refine own_go (B := T1.setTop (mkF m 13 #[.val (.ref o)] [(.ref b1)])) st1 ?_
  refine own_go (B := T1.setTop (mkF m 15 #[.val (.ref o)] [(.ref o), (.ref b1), (.ref b1)])) (fun t k => ?_) ?_
  · show Steps p.tables e below (T1.setTop (mkF m 13 #[.val (.ref o)] [(.ref b1)])) _
    refine XS.dup X1.here hx rfl (hb hby d_jdk_32_method_4_13) rfl rfl ?_
    show Steps p.tables e below (T1.setTop (mkF m 14 #[.val (.ref o)] [(.ref b1), (.ref b1)])) _
    refine XS.aloadN X1.here hx rfl (hb hby d_jdk_32_method_4_14) rfl rfl ?_
    show Steps p.tables e below (T1.setTop (mkF m 15 #[.val (.ref o)] [(.ref o), (.ref b1), (.ref b1)])) _
    exact k
  -- pc 15: java/util/Optional.<init>
  obtain ⟨_, _, ⟨T2, L2, k2, n2⟩, -, X2, ⟨Lc2, hQ2, l2, y2, z2⟩, st2⟩ := X1.specialBack hx (y := (⟨"java/util/Optional", "<init>", "(Ljava/lang/Object;)V"⟩ : MethodName)) rfl hown (mvT hZ (hw _ (List.mem_of_getElem? (i := 45) rfl))) (mvT hZ (hw _ (List.mem_of_getElem? (i := 46) rfl))) (mvT hZ (hw _ (List.mem_of_getElem? (i := 48) rfl))) (by decide) (backOf (W := 1) (rmOptI l Z a0 hw [] b1 o h1 n0 O A1 F1_value g_b1) hZ (hw _ (List.mem_of_getElem? (i := 48) rfl)) (hw _ (List.mem_of_getElem? (i := 41) rfl)) (by decide) (by decide)) (g := (mkF m 15 #[.val (.ref o)] [(.ref o), (.ref b1), (.ref b1)])) rfl (by rw [hml]; rfl) (Steps.refl _) (a := b1) (argsL := [(.ref o)]) (rest := [(.ref b1)]) (lenOf pd_0 rfl) rfl (by show 2 * 0 + _ ≤ _; exact Nat.le_of_eq rfl) (hb hby d_jdk_32_method_4_15) (fun _ hWm => ⟨rfl, e1, (by decide : 1 + 0 ≤ _), (by decide : 1 + 0 ≤ _)⟩)
  dsimp only [Pt.U, Pt.locs, Pt.cells, Pt.slots] at X2 l2 y2 z2 st2 hQ2
  subst l2 y2 z2
  obtain ⟨rfl, Nq2, Kq2, Gq2_0⟩ := hQ2
  replace N := Fr.app N Nq2
  replace A1 := A1.keep Kq2
  clear F1_value
  replace O := O.keep Kq2 (allS g_b1 all0)
  replace K := K.trans Kq2 (allS (Or.inr s_b1) all0)
  refine own_go (B := T2.setTop (mkF m 18 #[.val (.ref o)] [(.ref b1)])) (fun t k => st2.trans k) ?_
  obtain ⟨fs, hr, hrun, hended, hW, hsame⟩ := X2.leave (v := some (.ref b1)) (fun h => by rw [Bd.returns] at h; cases h)
  refine ⟨_, _, own_retA X2 hx rfl Bd.returns rfl (hb hby d_jdk_32_method_4_18) hr, hfin _ _ ⟨hrun, hended, _, _, rfl, ?_, ⟨_, rfl⟩, hW, hsame.mono (by decide) (by decide)⟩⟩
  show QOfN1 Z o h0 n0 _ T2.heap _
  exact ⟨b1, rfl, N, K, s_b1, A1, Gq2_0⟩
def QOfN0 (Z : State) (wE : Addr) (h0 : Heap) (n0 : Nat) (v : Option Value) (h : Heap) (L : List Loc) : Prop := v = some (.ref wE) ∧ Fr n0 L ∧ h = h0
theorem ef_OfN0 (m : MethodId)  : entryFrame m #[.null] 1 = mkF m 0 #[.val .null] [] := by first | (simp [entryFrame, mkF, argsToLocals, Value.category]; done) | rfl | (rfl)
set_option maxRecDepth 65536 in
set_option maxHeartbeats 40000000 in
theorem rmOfN0 (l : Launch) (Z : State) (a0 : Array Value) (hw : ∀ d ∈ tables_1, d.before a0 Z = true) (ws : List Jvm.Cond) (wE : Addr) (h0 : Heap) (n0 : Nat) (O : Old Z n0 h0) (S_E : Sta Z Z.heap "java/util/Optional" "EMPTY" "Ljava/util/Optional;" (.ref wE)) :
    MetFree l (⟨"java/util/Optional", "ofNullable", "(Ljava/lang/Object;)Ljava/util/Optional;"⟩ : MethodName) (head1 (Jvm.Cond.code (⟨"java/util/Optional", "ofNullable", "(Ljava/lang/Object;)Ljava/util/Optional;"⟩ : MethodName) jdk_32_method_4_code 1 (some (.object "java/util/Optional")) :: ws) ({ frames := 0, cells := 0, slots := 0, locals := 0 } : Room)) (fun as_ U => as_ = #[.null] ∧ Z.Warmed39 U.vm ∧ U.heap = h0) (fun _ _ _ _ _ => True) (fun _ U oo_ U' => ∃ vv_ LL_, oo_ = .returned vv_ ∧ QOfN0 Z wE h0 n0 vv_ U'.heap LL_ ∧ FrameEnd U oo_ U' LL_ ({ frames := 0, cells := 0, slots := 0, locals := 0 } : Room).cells ({ frames := 0, cells := 0, slots := 0, locals := 0 } : Room).slots) := by
  refine MetFree.of_bodySF (plainFor_of_name pn_2) hisR ?_
  intro p e s m args below meth c s₁ Bd hml0 hP hK
  obtain ⟨rfl, hZ, hh⟩ := hP
  have hx := Bd.exec
  have hby := Bd.bytes
  have hml : c.maxLocals = 1 := hml0
  have hown : s.vm.findClass "java/util/Optional" = some m.cls := findClass_of_methodNamed Bd.named
  have hnm := (name_of_methodNamed Bd.named Bd.method).1
  have X0 : Stand p l e ({ frames := 0, cells := 0, slots := 0, locals := 0 } : Room) s m #[.null] below meth c s₁ [] 0 0 := Stand.of_body Bd
  have e0 : s₁.heap = h0 := by rw [← hh, Bd.state]; rfl
  have N := Fr.nil n0
  have K : Keep h0 h0 [] := Keep.refl h0 _
  refine own_go (B := s₁.setTop (mkF m 0 #[.val .null] [])) (fun t k => castTop (ef_OfN0 m ) k) ?_
  refine own_abs (fun P hfin => ?_)
  refine own_go (B := s₁.setTop (mkF m 4 #[.val .null] [])) (fun t k => ?_) ?_
  · show Steps p.tables e below (s₁.setTop (mkF m 0 #[.val .null] [])) _
    refine XS.aloadN X0.here hx rfl (hb hby d_jdk_32_method_4_0) rfl rfl ?_
    show Steps p.tables e below (s₁.setTop (mkF m 1 #[.val .null] [.null])) _
    refine XT.ifnonnullNo X0.here hx rfl (hb hby d_jdk_32_method_4_1) rfl ?_
    show Steps p.tables e below (s₁.setTop (mkF m 4 #[.val .null] [])) _
    exact k
  obtain ⟨T1, X1, e1, st1⟩ := getS2 X0 hx hZ hown (host := "") (Or.inl (hw _ (List.mem_of_getElem? (i := 65) rfl))) Via.refl e0 (S_E.ext O.2) (g := (mkF m 4 #[.val .null] [])) rfl (hb hby d_jdk_32_method_4_4)
  refine own_go (B := T1.setTop (mkF m 7 #[.val .null] [(.ref wE)])) st1 ?_
  refine own_go (B := T1.setTop (mkF m 18 #[.val .null] [(.ref wE)])) (fun t k => ?_) ?_
  · show Steps p.tables e below (T1.setTop (mkF m 7 #[.val .null] [(.ref wE)])) _
    refine XS.goto X1.here hx rfl (pc0 := 7) (pc' := 18) rfl (hb hby d_jdk_32_method_4_7) (by decide) (by decide) ?_
    show Steps p.tables e below (T1.setTop (mkF m 18 #[.val .null] [(.ref wE)])) _
    exact k
  obtain ⟨fs, hr, hrun, hended, hW, hsame⟩ := X1.leave (v := some (.ref wE)) (fun h => by rw [Bd.returns] at h; cases h)
  refine ⟨_, _, own_retA X1 hx rfl Bd.returns rfl (hb hby d_jdk_32_method_4_18) hr, hfin _ _ ⟨hrun, hended, _, _, rfl, ?_, ⟨_, rfl⟩, hW, hsame.mono (by decide) (by decide)⟩⟩
  show QOfN0 Z wE h0 n0 _ T1.heap _
  exact ⟨rfl, N, e1⟩
def QG1password (Z : State) (a : Addr) (o : Addr) (h0 : Heap) (n0 : Nat) (v : Option Value) (h : Heap) (L : List Loc) : Prop := ∃ r : Addr, v = some (.ref r) ∧ Fr n0 L ∧ Keep h0 h [] ∧ h0.size ≤ r ∧ Exa Z h r "java/util/Optional" ∧ Fld Z h r "java/util/Optional" "value" "Ljava/lang/Object;" (.ref o)
theorem ef_G1password (m : MethodId) (a : Addr) : entryFrame m #[(.ref a)] 1 = mkF m 0 #[.val (.ref a)] [] := by first | (simp [entryFrame, mkF, argsToLocals, Value.category]; done) | rfl | (rfl)
set_option maxRecDepth 65536 in
set_option maxHeartbeats 40000000 in
theorem rmG1password (l : Launch) (Z : State) (a0 : Array Value) (hw : ∀ d ∈ tables_1, d.before a0 Z = true) (ws : List Jvm.Cond) (a : Addr) (o : Addr) (h0 : Heap) (n0 : Nat) (O : Old Z n0 h0) (F : Fld Z h0 a "com/example/fixity/fixity/engine/AccountRequest" "password" "[C" (.ref o)) :
    MetFree l (⟨"com/example/fixity/fixity/engine/AccountRequest", "password", "()Ljava/util/Optional;"⟩ : MethodName) (head1 (Jvm.Cond.code (⟨"com/example/fixity/fixity/engine/AccountRequest", "password", "()Ljava/util/Optional;"⟩ : MethodName) prog_2_method_16_code 1 (some (.object "java/util/Optional")) :: ws) ({ frames := 3, cells := 1, slots := 1, locals := 38 } : Room)) (fun as_ U => as_ = #[(.ref a)] ∧ Z.Warmed39 U.vm ∧ U.heap = h0) (fun _ _ _ _ _ => True) (fun _ U oo_ U' => ∃ vv_ LL_, oo_ = .returned vv_ ∧ QG1password Z a o h0 n0 vv_ U'.heap LL_ ∧ FrameEnd U oo_ U' LL_ ({ frames := 3, cells := 1, slots := 1, locals := 38 } : Room).cells ({ frames := 3, cells := 1, slots := 1, locals := 38 } : Room).slots) := by
  refine MetFree.of_bodySF (plainFor_of_name pn_0) hisR ?_
  intro p e s m args below meth c s₁ Bd hml0 hP hK
  obtain ⟨rfl, hZ, hh⟩ := hP
  have hx := Bd.exec
  have hby := Bd.bytes
  have hml : c.maxLocals = 1 := hml0
  have hown : s.vm.findClass "com/example/fixity/fixity/engine/AccountRequest" = some m.cls := findClass_of_methodNamed Bd.named
  have hnm := (name_of_methodNamed Bd.named Bd.method).1
  have X0 : Stand p l e ({ frames := 3, cells := 1, slots := 1, locals := 38 } : Room) s m #[(.ref a)] below meth c s₁ [] 0 0 := Stand.of_body Bd
  have e0 : s₁.heap = h0 := by rw [← hh, Bd.state]; rfl
  have N := Fr.nil n0
  have K : Keep h0 h0 [] := Keep.refl h0 _
  refine own_go (B := s₁.setTop (mkF m 0 #[.val (.ref a)] [])) (fun t k => castTop (ef_G1password m a) k) ?_
  refine own_abs (fun P hfin => ?_)
  refine own_go (B := s₁.setTop (mkF m 1 #[.val (.ref a)] [(.ref a)])) (fun t k => ?_) ?_
  · show Steps p.tables e below (s₁.setTop (mkF m 0 #[.val (.ref a)] [])) _
    refine XS.aloadN X0.here hx rfl (hb hby d_prog_2_method_16_0) rfl rfl ?_
    show Steps p.tables e below (s₁.setTop (mkF m 1 #[.val (.ref a)] [(.ref a)])) _
    exact k
  obtain ⟨T1, X1, e1, st1⟩ := getF X0 hx hZ hown (host := "") (Or.inl (hw _ (List.mem_of_getElem? (i := 32) rfl))) Via.refl e0 F (g := (mkF m 1 #[.val (.ref a)] [(.ref a)])) rfl rfl (hb hby d_prog_2_method_16_1)
  refine own_go (B := T1.setTop (mkF m 4 #[.val (.ref a)] [(.ref o)])) st1 ?_
  -- pc 4: java/util/Optional.ofNullable
  obtain ⟨_, _, ⟨T2, L2, k2, n2⟩, -, X2, ⟨Lc2, hQ2, l2, y2, z2⟩, st2⟩ := Jvm.LawKit.callS X1 hx (y := (⟨"java/util/Optional", "ofNullable", "(Ljava/lang/Object;)Ljava/util/Optional;"⟩ : MethodName)) hown (mvT hZ (hw _ (List.mem_of_getElem? (i := 39) rfl))) (mvT hZ (hw _ (List.mem_of_getElem? (i := 40) rfl))) (mvT hZ (hw _ (List.mem_of_getElem? (i := 41) rfl))) (mvT hZ (hw _ (List.mem_of_getElem? (i := 42) rfl))) (by decide) (backOf (W := 0) (rmOfN1 l Z a0 hw [] o h0 n0 O ) hZ (hw _ (List.mem_of_getElem? (i := 42) rfl)) (hw _ (List.mem_of_getElem? (i := 41) rfl)) (by decide) (by decide)) (g := (mkF m 4 #[.val (.ref a)] [(.ref o)])) rfl (by rw [hml]; rfl) (argsL := [(.ref o)]) (rest := []) (lenOf pd_1 rfl) rfl (by show 2 * 0 + _ ≤ _; exact Nat.le_of_eq rfl) (hb hby d_prog_2_method_16_4) (fun _ hWm => ⟨rfl, e1, (by decide : 0 + 1 ≤ _), (by decide : 0 + 1 ≤ _)⟩)
  dsimp only [Pt.U, Pt.locs, Pt.cells, Pt.slots] at X2 l2 y2 z2 st2 hQ2
  subst l2 y2 z2
  obtain ⟨r2, rfl, Nq2, Kq2, fq2_r, Gq2_0, Gq2_1⟩ := hQ2
  replace N := Fr.app N Nq2
  have lt_a_r2 : a < r2 := Nat.lt_of_lt_of_le F.lt fq2_r
  have g_r2 : n0 ≤ r2 := Nat.le_trans (own_oldsz O) fq2_r
  have s_r2 : h0.size ≤ r2 := Nat.le_trans K.1 fq2_r
  replace F := F.keep Kq2 nin0
  replace O := O.keep Kq2 all0
  replace K := K.trans Kq2 all0
  refine own_go (B := T2.setTop (mkF m 7 #[.val (.ref a)] [(.ref r2)])) st2 ?_
  obtain ⟨fs, hr, hrun, hended, hW, hsame⟩ := X2.leave (v := some (.ref r2)) (fun h => by rw [Bd.returns] at h; cases h)
  refine ⟨_, _, own_retA X2 hx rfl Bd.returns rfl (hb hby d_prog_2_method_16_7) hr, hfin _ _ ⟨hrun, hended, _, _, rfl, ?_, ⟨_, rfl⟩, hW, hsame.mono (by decide) (by decide)⟩⟩
  show QG1password Z a o h0 n0 _ T2.heap _
  exact ⟨r2, rfl, N, K, s_r2, Gq2_0, Gq2_1⟩
def QG0role (Z : State) (a : Addr) (wE : Addr) (h0 : Heap) (n0 : Nat) (v : Option Value) (h : Heap) (L : List Loc) : Prop := v = some (.ref wE) ∧ Fr n0 L ∧ h = h0
theorem ef_G0role (m : MethodId) (a : Addr) : entryFrame m #[(.ref a)] 1 = mkF m 0 #[.val (.ref a)] [] := by first | (simp [entryFrame, mkF, argsToLocals, Value.category]; done) | rfl | (rfl)
set_option maxRecDepth 65536 in
set_option maxHeartbeats 40000000 in
theorem rmG0role (l : Launch) (Z : State) (a0 : Array Value) (hw : ∀ d ∈ tables_1, d.before a0 Z = true) (ws : List Jvm.Cond) (a : Addr) (wE : Addr) (h0 : Heap) (n0 : Nat) (O : Old Z n0 h0) (F : Fld Z h0 a "com/example/fixity/fixity/engine/AccountRequest" "role" "Ljava/lang/String;" .null) (S_E : Sta Z Z.heap "java/util/Optional" "EMPTY" "Ljava/util/Optional;" (.ref wE)) :
    MetFree l (⟨"com/example/fixity/fixity/engine/AccountRequest", "role", "()Ljava/util/Optional;"⟩ : MethodName) (head1 (Jvm.Cond.code (⟨"com/example/fixity/fixity/engine/AccountRequest", "role", "()Ljava/util/Optional;"⟩ : MethodName) prog_2_method_11_code 1 (some (.object "java/util/Optional")) :: ws) ({ frames := 1, cells := 0, slots := 0, locals := 12 } : Room)) (fun as_ U => as_ = #[(.ref a)] ∧ Z.Warmed39 U.vm ∧ U.heap = h0) (fun _ _ _ _ _ => True) (fun _ U oo_ U' => ∃ vv_ LL_, oo_ = .returned vv_ ∧ QG0role Z a wE h0 n0 vv_ U'.heap LL_ ∧ FrameEnd U oo_ U' LL_ ({ frames := 1, cells := 0, slots := 0, locals := 12 } : Room).cells ({ frames := 1, cells := 0, slots := 0, locals := 12 } : Room).slots) := by
  refine MetFree.of_bodySF (plainFor_of_name pn_0) hisR ?_
  intro p e s m args below meth c s₁ Bd hml0 hP hK
  obtain ⟨rfl, hZ, hh⟩ := hP
  have hx := Bd.exec
  have hby := Bd.bytes
  have hml : c.maxLocals = 1 := hml0
  have hown : s.vm.findClass "com/example/fixity/fixity/engine/AccountRequest" = some m.cls := findClass_of_methodNamed Bd.named
  have hnm := (name_of_methodNamed Bd.named Bd.method).1
  have X0 : Stand p l e ({ frames := 1, cells := 0, slots := 0, locals := 12 } : Room) s m #[(.ref a)] below meth c s₁ [] 0 0 := Stand.of_body Bd
  have e0 : s₁.heap = h0 := by rw [← hh, Bd.state]; rfl
  have N := Fr.nil n0
  have K : Keep h0 h0 [] := Keep.refl h0 _
  refine own_go (B := s₁.setTop (mkF m 0 #[.val (.ref a)] [])) (fun t k => castTop (ef_G0role m a) k) ?_
  refine own_abs (fun P hfin => ?_)
  refine own_go (B := s₁.setTop (mkF m 1 #[.val (.ref a)] [(.ref a)])) (fun t k => ?_) ?_
  · show Steps p.tables e below (s₁.setTop (mkF m 0 #[.val (.ref a)] [])) _
    refine XS.aloadN X0.here hx rfl (hb hby d_prog_2_method_11_0) rfl rfl ?_
    show Steps p.tables e below (s₁.setTop (mkF m 1 #[.val (.ref a)] [(.ref a)])) _
    exact k
  obtain ⟨T1, X1, e1, st1⟩ := getF X0 hx hZ hown (host := "") (Or.inl (hw _ (List.mem_of_getElem? (i := 63) rfl))) Via.refl e0 F (g := (mkF m 1 #[.val (.ref a)] [(.ref a)])) rfl rfl (hb hby d_prog_2_method_11_1)
  refine own_go (B := T1.setTop (mkF m 4 #[.val (.ref a)] [.null])) st1 ?_
  -- pc 4: java/util/Optional.ofNullable
  obtain ⟨_, _, ⟨T2, L2, k2, n2⟩, -, X2, ⟨Lc2, hQ2, l2, y2, z2⟩, st2⟩ := Jvm.LawKit.callS X1 hx (y := (⟨"java/util/Optional", "ofNullable", "(Ljava/lang/Object;)Ljava/util/Optional;"⟩ : MethodName)) hown (mvT hZ (hw _ (List.mem_of_getElem? (i := 39) rfl))) (mvT hZ (hw _ (List.mem_of_getElem? (i := 40) rfl))) (mvT hZ (hw _ (List.mem_of_getElem? (i := 41) rfl))) (mvT hZ (hw _ (List.mem_of_getElem? (i := 42) rfl))) (by decide) (backOf (W := 0) (rmOfN0 l Z a0 hw [] wE h0 n0 O S_E) hZ (hw _ (List.mem_of_getElem? (i := 42) rfl)) (hw _ (List.mem_of_getElem? (i := 41) rfl)) (by decide) (by decide)) (g := (mkF m 4 #[.val (.ref a)] [.null])) rfl (by rw [hml]; rfl) (argsL := [.null]) (rest := []) (lenOf pd_1 rfl) rfl (by show 2 * 0 + _ ≤ _; exact Nat.le_of_eq rfl) (hb hby d_prog_2_method_11_4) (fun _ hWm => ⟨rfl, e1, (by decide : 0 + 0 ≤ _), (by decide : 0 + 0 ≤ _)⟩)
  dsimp only [Pt.U, Pt.locs, Pt.cells, Pt.slots] at X2 l2 y2 z2 st2 hQ2
  subst l2 y2 z2
  obtain ⟨rfl, Nq2, Kq2⟩ := hQ2
  replace N := Fr.app N Nq2
  refine own_go (B := T2.setTop (mkF m 7 #[.val (.ref a)] [(.ref wE)])) st2 ?_
  obtain ⟨fs, hr, hrun, hended, hW, hsame⟩ := X2.leave (v := some (.ref wE)) (fun h => by rw [Bd.returns] at h; cases h)
  refine ⟨_, _, own_retA X2 hx rfl Bd.returns rfl (hb hby d_prog_2_method_11_7) hr, hfin _ _ ⟨hrun, hended, _, _, rfl, ?_, ⟨_, rfl⟩, hW, hsame.mono (by decide) (by decide)⟩⟩
  show QG0role Z a wE h0 n0 _ T2.heap _
  exact ⟨rfl, N, Kq2⟩
def QG0unreadable (Z : State) (a : Addr) (wE : Addr) (h0 : Heap) (n0 : Nat) (v : Option Value) (h : Heap) (L : List Loc) : Prop := v = some (.ref wE) ∧ Fr n0 L ∧ h = h0
theorem ef_G0unreadable (m : MethodId) (a : Addr) : entryFrame m #[(.ref a)] 1 = mkF m 0 #[.val (.ref a)] [] := by first | (simp [entryFrame, mkF, argsToLocals, Value.category]; done) | rfl | (rfl)
set_option maxRecDepth 65536 in
set_option maxHeartbeats 40000000 in
theorem rmG0unreadable (l : Launch) (Z : State) (a0 : Array Value) (hw : ∀ d ∈ tables_1, d.before a0 Z = true) (ws : List Jvm.Cond) (a : Addr) (wE : Addr) (h0 : Heap) (n0 : Nat) (O : Old Z n0 h0) (F : Fld Z h0 a "com/example/fixity/fixity/engine/AccountRequest" "unreadable" "Ljava/lang/String;" .null) (S_E : Sta Z Z.heap "java/util/Optional" "EMPTY" "Ljava/util/Optional;" (.ref wE)) :
    MetFree l (⟨"com/example/fixity/fixity/engine/AccountRequest", "unreadable", "()Ljava/util/Optional;"⟩ : MethodName) (head1 (Jvm.Cond.code (⟨"com/example/fixity/fixity/engine/AccountRequest", "unreadable", "()Ljava/util/Optional;"⟩ : MethodName) prog_2_method_10_code 1 (some (.object "java/util/Optional")) :: ws) ({ frames := 1, cells := 0, slots := 0, locals := 12 } : Room)) (fun as_ U => as_ = #[(.ref a)] ∧ Z.Warmed39 U.vm ∧ U.heap = h0) (fun _ _ _ _ _ => True) (fun _ U oo_ U' => ∃ vv_ LL_, oo_ = .returned vv_ ∧ QG0unreadable Z a wE h0 n0 vv_ U'.heap LL_ ∧ FrameEnd U oo_ U' LL_ ({ frames := 1, cells := 0, slots := 0, locals := 12 } : Room).cells ({ frames := 1, cells := 0, slots := 0, locals := 12 } : Room).slots) := by
  refine MetFree.of_bodySF (plainFor_of_name pn_0) hisR ?_
  intro p e s m args below meth c s₁ Bd hml0 hP hK
  obtain ⟨rfl, hZ, hh⟩ := hP
  have hx := Bd.exec
  have hby := Bd.bytes
  have hml : c.maxLocals = 1 := hml0
  have hown : s.vm.findClass "com/example/fixity/fixity/engine/AccountRequest" = some m.cls := findClass_of_methodNamed Bd.named
  have hnm := (name_of_methodNamed Bd.named Bd.method).1
  have X0 : Stand p l e ({ frames := 1, cells := 0, slots := 0, locals := 12 } : Room) s m #[(.ref a)] below meth c s₁ [] 0 0 := Stand.of_body Bd
  have e0 : s₁.heap = h0 := by rw [← hh, Bd.state]; rfl
  have N := Fr.nil n0
  have K : Keep h0 h0 [] := Keep.refl h0 _
  refine own_go (B := s₁.setTop (mkF m 0 #[.val (.ref a)] [])) (fun t k => castTop (ef_G0unreadable m a) k) ?_
  refine own_abs (fun P hfin => ?_)
  refine own_go (B := s₁.setTop (mkF m 1 #[.val (.ref a)] [(.ref a)])) (fun t k => ?_) ?_
  · show Steps p.tables e below (s₁.setTop (mkF m 0 #[.val (.ref a)] [])) _
    refine XS.aloadN X0.here hx rfl (hb hby d_prog_2_method_10_0) rfl rfl ?_
    show Steps p.tables e below (s₁.setTop (mkF m 1 #[.val (.ref a)] [(.ref a)])) _
    exact k
  obtain ⟨T1, X1, e1, st1⟩ := getF X0 hx hZ hown (host := "") (Or.inl (hw _ (List.mem_of_getElem? (i := 11) rfl))) Via.refl e0 F (g := (mkF m 1 #[.val (.ref a)] [(.ref a)])) rfl rfl (hb hby d_prog_2_method_10_1)
  refine own_go (B := T1.setTop (mkF m 4 #[.val (.ref a)] [.null])) st1 ?_
  -- pc 4: java/util/Optional.ofNullable
  obtain ⟨_, _, ⟨T2, L2, k2, n2⟩, -, X2, ⟨Lc2, hQ2, l2, y2, z2⟩, st2⟩ := Jvm.LawKit.callS X1 hx (y := (⟨"java/util/Optional", "ofNullable", "(Ljava/lang/Object;)Ljava/util/Optional;"⟩ : MethodName)) hown (mvT hZ (hw _ (List.mem_of_getElem? (i := 39) rfl))) (mvT hZ (hw _ (List.mem_of_getElem? (i := 40) rfl))) (mvT hZ (hw _ (List.mem_of_getElem? (i := 41) rfl))) (mvT hZ (hw _ (List.mem_of_getElem? (i := 42) rfl))) (by decide) (backOf (W := 0) (rmOfN0 l Z a0 hw [] wE h0 n0 O S_E) hZ (hw _ (List.mem_of_getElem? (i := 42) rfl)) (hw _ (List.mem_of_getElem? (i := 41) rfl)) (by decide) (by decide)) (g := (mkF m 4 #[.val (.ref a)] [.null])) rfl (by rw [hml]; rfl) (argsL := [.null]) (rest := []) (lenOf pd_1 rfl) rfl (by show 2 * 0 + _ ≤ _; exact Nat.le_of_eq rfl) (hb hby d_prog_2_method_10_4) (fun _ hWm => ⟨rfl, e1, (by decide : 0 + 0 ≤ _), (by decide : 0 + 0 ≤ _)⟩)
  dsimp only [Pt.U, Pt.locs, Pt.cells, Pt.slots] at X2 l2 y2 z2 st2 hQ2
  subst l2 y2 z2
  obtain ⟨rfl, Nq2, Kq2⟩ := hQ2
  replace N := Fr.app N Nq2
  refine own_go (B := T2.setTop (mkF m 7 #[.val (.ref a)] [(.ref wE)])) st2 ?_
  obtain ⟨fs, hr, hrun, hended, hW, hsame⟩ := X2.leave (v := some (.ref wE)) (fun h => by rw [Bd.returns] at h; cases h)
  refine ⟨_, _, own_retA X2 hx rfl Bd.returns rfl (hb hby d_prog_2_method_10_7) hr, hfin _ _ ⟨hrun, hended, _, _, rfl, ?_, ⟨_, rfl⟩, hW, hsame.mono (by decide) (by decide)⟩⟩
  show QG0unreadable Z a wE h0 n0 _ T2.heap _
  exact ⟨rfl, N, Kq2⟩
def QOE1 (Z : State) (a : Addr) (o : Addr) (h0 : Heap) (n0 : Nat) (v : Option Value) (h : Heap) (L : List Loc) : Prop := v = some (.ref o) ∧ Fr n0 L ∧ h = h0
theorem ef_OE1 (m : MethodId) (a : Addr) : entryFrame m #[(.ref a), .null] 2 = mkF m 0 #[.val (.ref a), .val .null] [] := by first | (simp [entryFrame, mkF, argsToLocals, Value.category]; done) | rfl | (rfl)
set_option maxRecDepth 65536 in
set_option maxHeartbeats 40000000 in
theorem rmOE1 (l : Launch) (Z : State) (a0 : Array Value) (hw : ∀ d ∈ tables_1, d.before a0 Z = true) (ws : List Jvm.Cond) (a : Addr) (o : Addr) (h0 : Heap) (n0 : Nat) (O : Old Z n0 h0) (F : Fld Z h0 a "java/util/Optional" "value" "Ljava/lang/Object;" (.ref o)) :
    MetFree l (⟨"java/util/Optional", "orElse", "(Ljava/lang/Object;)Ljava/lang/Object;"⟩ : MethodName) (head1 (Jvm.Cond.code (⟨"java/util/Optional", "orElse", "(Ljava/lang/Object;)Ljava/lang/Object;"⟩ : MethodName) jdk_32_method_15_code 2 (some (.object "java/lang/Object")) :: ws) ({ frames := 0, cells := 0, slots := 0, locals := 0 } : Room)) (fun as_ U => as_ = #[(.ref a), .null] ∧ Z.Warmed39 U.vm ∧ U.heap = h0) (fun _ _ _ _ _ => True) (fun _ U oo_ U' => ∃ vv_ LL_, oo_ = .returned vv_ ∧ QOE1 Z a o h0 n0 vv_ U'.heap LL_ ∧ FrameEnd U oo_ U' LL_ ({ frames := 0, cells := 0, slots := 0, locals := 0 } : Room).cells ({ frames := 0, cells := 0, slots := 0, locals := 0 } : Room).slots) := by
  refine MetFree.of_bodySF (plainFor_of_name pn_2) hisR ?_
  intro p e s m args below meth c s₁ Bd hml0 hP hK
  obtain ⟨rfl, hZ, hh⟩ := hP
  have hx := Bd.exec
  have hby := Bd.bytes
  have hml : c.maxLocals = 2 := hml0
  have hown : s.vm.findClass "java/util/Optional" = some m.cls := findClass_of_methodNamed Bd.named
  have hnm := (name_of_methodNamed Bd.named Bd.method).1
  have X0 : Stand p l e ({ frames := 0, cells := 0, slots := 0, locals := 0 } : Room) s m #[(.ref a), .null] below meth c s₁ [] 0 0 := Stand.of_body Bd
  have e0 : s₁.heap = h0 := by rw [← hh, Bd.state]; rfl
  have N := Fr.nil n0
  have K : Keep h0 h0 [] := Keep.refl h0 _
  refine own_go (B := s₁.setTop (mkF m 0 #[.val (.ref a), .val .null] [])) (fun t k => castTop (ef_OE1 m a) k) ?_
  refine own_abs (fun P hfin => ?_)
  refine own_go (B := s₁.setTop (mkF m 1 #[.val (.ref a), .val .null] [(.ref a)])) (fun t k => ?_) ?_
  · show Steps p.tables e below (s₁.setTop (mkF m 0 #[.val (.ref a), .val .null] [])) _
    refine XS.aloadN X0.here hx rfl (hb hby d_jdk_32_method_15_0) rfl rfl ?_
    show Steps p.tables e below (s₁.setTop (mkF m 1 #[.val (.ref a), .val .null] [(.ref a)])) _
    exact k
  obtain ⟨T1, X1, e1, st1⟩ := getF X0 hx hZ hown (host := "") (Or.inl (hw _ (List.mem_of_getElem? (i := 50) rfl))) Via.refl e0 F (g := (mkF m 1 #[.val (.ref a), .val .null] [(.ref a)])) rfl rfl (hb hby d_jdk_32_method_15_1)
  refine own_go (B := T1.setTop (mkF m 4 #[.val (.ref a), .val .null] [(.ref o)])) st1 ?_
  refine own_go (B := T1.setTop (mkF m 8 #[.val (.ref a), .val .null] [(.ref a)])) (fun t k => ?_) ?_
  · show Steps p.tables e below (T1.setTop (mkF m 4 #[.val (.ref a), .val .null] [(.ref o)])) _
    refine XS.ifnullNo X1.here hx rfl (hb hby d_jdk_32_method_15_4) rfl ?_
    show Steps p.tables e below (T1.setTop (mkF m 7 #[.val (.ref a), .val .null] [])) _
    refine XS.aloadN X1.here hx rfl (hb hby d_jdk_32_method_15_7) rfl rfl ?_
    show Steps p.tables e below (T1.setTop (mkF m 8 #[.val (.ref a), .val .null] [(.ref a)])) _
    exact k
  obtain ⟨T2, X2, e2, st2⟩ := getF X1 hx hZ hown (host := "") (Or.inl (hw _ (List.mem_of_getElem? (i := 50) rfl))) Via.refl e1 F (g := (mkF m 8 #[.val (.ref a), .val .null] [(.ref a)])) rfl rfl (hb hby d_jdk_32_method_15_8)
  refine own_go (B := T2.setTop (mkF m 11 #[.val (.ref a), .val .null] [(.ref o)])) st2 ?_
  refine own_go (B := T2.setTop (mkF m 15 #[.val (.ref a), .val .null] [(.ref o)])) (fun t k => ?_) ?_
  · show Steps p.tables e below (T2.setTop (mkF m 11 #[.val (.ref a), .val .null] [(.ref o)])) _
    refine XS.goto X2.here hx rfl (pc0 := 11) (pc' := 15) rfl (hb hby d_jdk_32_method_15_11) (by decide) (by decide) ?_
    show Steps p.tables e below (T2.setTop (mkF m 15 #[.val (.ref a), .val .null] [(.ref o)])) _
    exact k
  obtain ⟨fs, hr, hrun, hended, hW, hsame⟩ := X2.leave (v := some (.ref o)) (fun h => by rw [Bd.returns] at h; cases h)
  refine ⟨_, _, own_retA X2 hx rfl Bd.returns rfl (hb hby d_jdk_32_method_15_15) hr, hfin _ _ ⟨hrun, hended, _, _, rfl, ?_, ⟨_, rfl⟩, hW, hsame.mono (by decide) (by decide)⟩⟩
  show QOE1 Z a o h0 n0 _ T2.heap _
  exact ⟨rfl, N, e2⟩
def QOE0 (Z : State) (a : Addr) (h0 : Heap) (n0 : Nat) (v : Option Value) (h : Heap) (L : List Loc) : Prop := v = some .null ∧ Fr n0 L ∧ h = h0
theorem ef_OE0 (m : MethodId) (a : Addr) : entryFrame m #[(.ref a), .null] 2 = mkF m 0 #[.val (.ref a), .val .null] [] := by first | (simp [entryFrame, mkF, argsToLocals, Value.category]; done) | rfl | (rfl)
set_option maxRecDepth 65536 in
set_option maxHeartbeats 40000000 in
theorem rmOE0 (l : Launch) (Z : State) (a0 : Array Value) (hw : ∀ d ∈ tables_1, d.before a0 Z = true) (ws : List Jvm.Cond) (a : Addr) (h0 : Heap) (n0 : Nat) (O : Old Z n0 h0) (F : Fld Z h0 a "java/util/Optional" "value" "Ljava/lang/Object;" .null) :
    MetFree l (⟨"java/util/Optional", "orElse", "(Ljava/lang/Object;)Ljava/lang/Object;"⟩ : MethodName) (head1 (Jvm.Cond.code (⟨"java/util/Optional", "orElse", "(Ljava/lang/Object;)Ljava/lang/Object;"⟩ : MethodName) jdk_32_method_15_code 2 (some (.object "java/lang/Object")) :: ws) ({ frames := 0, cells := 0, slots := 0, locals := 0 } : Room)) (fun as_ U => as_ = #[(.ref a), .null] ∧ Z.Warmed39 U.vm ∧ U.heap = h0) (fun _ _ _ _ _ => True) (fun _ U oo_ U' => ∃ vv_ LL_, oo_ = .returned vv_ ∧ QOE0 Z a h0 n0 vv_ U'.heap LL_ ∧ FrameEnd U oo_ U' LL_ ({ frames := 0, cells := 0, slots := 0, locals := 0 } : Room).cells ({ frames := 0, cells := 0, slots := 0, locals := 0 } : Room).slots) := by
  refine MetFree.of_bodySF (plainFor_of_name pn_2) hisR ?_
  intro p e s m args below meth c s₁ Bd hml0 hP hK
  obtain ⟨rfl, hZ, hh⟩ := hP
  have hx := Bd.exec
  have hby := Bd.bytes
  have hml : c.maxLocals = 2 := hml0
  have hown : s.vm.findClass "java/util/Optional" = some m.cls := findClass_of_methodNamed Bd.named
  have hnm := (name_of_methodNamed Bd.named Bd.method).1
  have X0 : Stand p l e ({ frames := 0, cells := 0, slots := 0, locals := 0 } : Room) s m #[(.ref a), .null] below meth c s₁ [] 0 0 := Stand.of_body Bd
  have e0 : s₁.heap = h0 := by rw [← hh, Bd.state]; rfl
  have N := Fr.nil n0
  have K : Keep h0 h0 [] := Keep.refl h0 _
  refine own_go (B := s₁.setTop (mkF m 0 #[.val (.ref a), .val .null] [])) (fun t k => castTop (ef_OE0 m a) k) ?_
  refine own_abs (fun P hfin => ?_)
  refine own_go (B := s₁.setTop (mkF m 1 #[.val (.ref a), .val .null] [(.ref a)])) (fun t k => ?_) ?_
  · show Steps p.tables e below (s₁.setTop (mkF m 0 #[.val (.ref a), .val .null] [])) _
    refine XS.aloadN X0.here hx rfl (hb hby d_jdk_32_method_15_0) rfl rfl ?_
    show Steps p.tables e below (s₁.setTop (mkF m 1 #[.val (.ref a), .val .null] [(.ref a)])) _
    exact k
  obtain ⟨T1, X1, e1, st1⟩ := getF X0 hx hZ hown (host := "") (Or.inl (hw _ (List.mem_of_getElem? (i := 50) rfl))) Via.refl e0 F (g := (mkF m 1 #[.val (.ref a), .val .null] [(.ref a)])) rfl rfl (hb hby d_jdk_32_method_15_1)
  refine own_go (B := T1.setTop (mkF m 4 #[.val (.ref a), .val .null] [.null])) st1 ?_
  refine own_go (B := T1.setTop (mkF m 15 #[.val (.ref a), .val .null] [.null])) (fun t k => ?_) ?_
  · show Steps p.tables e below (T1.setTop (mkF m 4 #[.val (.ref a), .val .null] [.null])) _
    refine XS.ifnullYes X1.here hx rfl (pc0 := 4) (pc' := 14) rfl (hb hby d_jdk_32_method_15_4) rfl (by decide) (by decide) ?_
    show Steps p.tables e below (T1.setTop (mkF m 14 #[.val (.ref a), .val .null] [])) _
    refine XS.aloadN X1.here hx rfl (hb hby d_jdk_32_method_15_14) rfl rfl ?_
    show Steps p.tables e below (T1.setTop (mkF m 15 #[.val (.ref a), .val .null] [.null])) _
    exact k
  obtain ⟨fs, hr, hrun, hended, hW, hsame⟩ := X1.leave (v := some .null) (fun h => by rw [Bd.returns] at h; cases h)
  refine ⟨_, _, own_retA X1 hx rfl Bd.returns rfl (hb hby d_jdk_32_method_15_15) hr, hfin _ _ ⟨hrun, hended, _, _, rfl, ?_, ⟨_, rfl⟩, hW, hsame.mono (by decide) (by decide)⟩⟩
  show QOE0 Z a h0 n0 _ T1.heap _
  exact ⟨rfl, N, e1⟩
def QSetpassword (Z : State) (a : Addr) (o : Addr) (v0 : Value) (h0 : Heap) (n0 : Nat) (v : Option Value) (h : Heap) (L : List Loc) : Prop := v = some (.ref a) ∧ Fr n0 L ∧ Keep h0 h [a] ∧ Fld Z h a "com/example/fixity/fixity/engine/AccountRequest" "password" "[C" (.ref o) ∧ Fld Z h a "com/example/fixity/fixity/engine/AccountRequest" "unreadable" "Ljava/lang/String;" .null ∧ Fld Z h a "com/example/fixity/fixity/engine/AccountRequest" "role" "Ljava/lang/String;" .null
theorem ef_Setpassword (m : MethodId) (a : Addr) (o : Addr) : entryFrame m #[(.ref a), (.ref o)] 2 = mkF m 0 #[.val (.ref a), .val (.ref o)] [] := by first | (simp [entryFrame, mkF, argsToLocals, Value.category]; done) | rfl | (rfl)
set_option maxRecDepth 65536 in
set_option maxHeartbeats 40000000 in
theorem rmSetpassword (l : Launch) (Z : State) (a0 : Array Value) (hw : ∀ d ∈ tables_1, d.before a0 Z = true) (ws : List Jvm.Cond) (a : Addr) (o : Addr) (v0 : Value) (h0 : Heap) (n0 : Nat) (O : Old Z n0 h0) (E : Exa Z h0 a "com/example/fixity/fixity/engine/AccountRequest") (F0 : Fld Z h0 a "com/example/fixity/fixity/engine/AccountRequest" "password" "[C" v0) (F_unreadable : Fld Z h0 a "com/example/fixity/fixity/engine/AccountRequest" "unreadable" "Ljava/lang/String;" .null) (F_role : Fld Z h0 a "com/example/fixity/fixity/engine/AccountRequest" "role" "Ljava/lang/String;" .null) (Eo : Exa Z h0 o "[C") (ga : n0 ≤ a) :
    MetFree l (⟨"com/example/fixity/fixity/engine/AccountRequest", "password", "([C)Lcom/example/fixity/fixity/engine/AccountRequest;"⟩ : MethodName) (head1 (Jvm.Cond.code (⟨"com/example/fixity/fixity/engine/AccountRequest", "password", "([C)Lcom/example/fixity/fixity/engine/AccountRequest;"⟩ : MethodName) prog_2_method_9_code 2 (some (.object "com/example/fixity/fixity/engine/AccountRequest")) :: ws) ({ frames := 1, cells := 2, slots := 36, locals := 14 } : Room)) (fun as_ U => as_ = #[(.ref a), (.ref o)] ∧ Z.Warmed39 U.vm ∧ U.heap = h0) (fun _ _ _ _ _ => True) (fun _ U oo_ U' => ∃ vv_ LL_, oo_ = .returned vv_ ∧ QSetpassword Z a o v0 h0 n0 vv_ U'.heap LL_ ∧ ReturnedEndW U oo_ U' LL_ ({ frames := 1, cells := 2, slots := 36, locals := 14 } : Room).cells ({ frames := 1, cells := 2, slots := 36, locals := 14 } : Room).slots) := by
  refine MetFree.of_bodySF (plainFor_of_name pn_0) hisR ?_
  intro p e s m args below meth c s₁ Bd hml0 hP hK
  obtain ⟨rfl, hZ, hh⟩ := hP
  have hx := Bd.exec
  have hby := Bd.bytes
  have hml : c.maxLocals = 2 := hml0
  have hown : s.vm.findClass "com/example/fixity/fixity/engine/AccountRequest" = some m.cls := findClass_of_methodNamed Bd.named
  have hnm := (name_of_methodNamed Bd.named Bd.method).1
  have X0 : Stand p l e ({ frames := 1, cells := 2, slots := 36, locals := 14 } : Room) (s.setVm s.vm) m #[(.ref a), (.ref o)] below meth c s₁ [] 0 0 := Stand.of_body Bd
  have e0 : s₁.heap = h0 := by rw [← hh, Bd.state]; rfl
  have N := Fr.nil n0
  have hown : (s.setVm s.vm).vm.findClass "com/example/fixity/fixity/engine/AccountRequest" = some m.cls := hown
  have hZ : Z.Warmed39 (s.setVm s.vm).vm := hZ
  have hS : s.Since s.vm h0.size := (State.WarmedH.refl s).since _
  have hk : h0.size ≤ h0.size := Nat.le_refl _
  have K : Keep h0 h0 [a] := Keep.refl h0 _
  refine own_go (B := s₁.setTop (mkF m 0 #[.val (.ref a), .val (.ref o)] [])) (fun t k => castTop (ef_Setpassword m a o) k) ?_
  refine own_abs (fun P hfin => ?_)
  refine own_go (B := s₁.setTop (mkF m 2 #[.val (.ref a), .val (.ref o)] [(.ref o), (.ref a)])) (fun t k => ?_) ?_
  · show Steps p.tables e below (s₁.setTop (mkF m 0 #[.val (.ref a), .val (.ref o)] [])) _
    refine XS.aloadN X0.here hx rfl (hb hby d_prog_2_method_9_0) rfl rfl ?_
    show Steps p.tables e below (s₁.setTop (mkF m 1 #[.val (.ref a), .val (.ref o)] [(.ref a)])) _
    refine XS.aloadN X0.here hx rfl (hb hby d_prog_2_method_9_1) rfl rfl ?_
    show Steps p.tables e below (s₁.setTop (mkF m 2 #[.val (.ref a), .val (.ref o)] [(.ref o), (.ref a)])) _
    exact k
  obtain ⟨b1, T1, h1, k1, X1, e1, E1, hS, hk', hZ, hown, st1⟩ := ldcS X0 hx hZ hown (hw _ (List.mem_of_getElem? (i := 18) rfl)) (fun d hd => hw d ((by decide +kernel : ∀ d ∈ Bundle.stringAtoms, d ∈ tables_1) d hd)) e0 hS hk (g := (mkF m 2 #[.val (.ref a), .val (.ref o)] [(.ref o), (.ref a)])) rfl (hb hby d_prog_2_method_9_2) (n := 32) (by decide) (by decide) (by decide) (by decide)
  replace E := E.ext E1
  replace F0 := F0.ext E1
  replace F_unreadable := F_unreadable.ext E1
  replace F_role := F_role.ext E1
  replace Eo := Eo.ext E1
  replace O := O.ext E1
  replace hk := Nat.le_trans hk E1.1
  replace K := K.ext E1
  replace hk := hk'
  refine own_go (B := T1.setTop (mkF m 4 #[.val (.ref a), .val (.ref o)] [(.ref b1), (.ref o), (.ref a)])) st1 ?_
  -- pc 4: java/util/Objects.requireNonNull
  obtain ⟨_, _, ⟨T2, L2, k2, n2⟩, -, X2, ⟨Lc2, hQ2, l2, y2, z2⟩, st2⟩ := Jvm.LawKit.callS X1 hx (y := (⟨"java/util/Objects", "requireNonNull", "(Ljava/lang/Object;Ljava/lang/String;)Ljava/lang/Object;"⟩ : MethodName)) hown (mvT hZ (hw _ (List.mem_of_getElem? (i := 26) rfl))) (mvT hZ (hw _ (List.mem_of_getElem? (i := 27) rfl))) (mvT hZ (hw _ (List.mem_of_getElem? (i := 28) rfl))) (mvT hZ (hw _ (List.mem_of_getElem? (i := 29) rfl))) (by decide) (backOf (W := 1) (rmRnn l Z a0 hw [] o b1 h1 n0 O ) hZ (hw _ (List.mem_of_getElem? (i := 29) rfl)) (hw _ (List.mem_of_getElem? (i := 28) rfl)) (by decide) (by decide)) (g := (mkF m 4 #[.val (.ref a), .val (.ref o)] [(.ref b1), (.ref o), (.ref a)])) rfl (by rw [hml]; rfl) (argsL := [(.ref o), (.ref b1)]) (rest := [(.ref a)]) (lenOf pd_2 rfl) rfl (by show 2 * 0 + _ ≤ _; exact Nat.le_of_eq rfl) (hb hby d_prog_2_method_9_4) (fun _ hWm => ⟨rfl, e1, (by decide : 2 + 0 ≤ _), (by decide : 36 + 0 ≤ _)⟩)
  dsimp only [Pt.U, Pt.locs, Pt.cells, Pt.slots] at X2 l2 y2 z2 st2 hQ2
  subst l2 y2 z2
  obtain ⟨rfl, Nq2, Kq2⟩ := hQ2
  replace N := Fr.app N Nq2
  refine own_go (B := T2.setTop (mkF m 7 #[.val (.ref a), .val (.ref o)] [(.ref o), (.ref a)])) st2 ?_
  obtain ⟨T3, X3, e3, st3⟩ := castY X2 hx hZ hown (hw _ (List.mem_of_getElem? (i := 30) rfl)) Kq2 (Ins.self Eo) (g := (mkF m 7 #[.val (.ref a), .val (.ref o)] [(.ref o), (.ref a)])) rfl rfl (hb hby d_prog_2_method_9_7)
  refine own_go (B := T3.setTop (mkF m 10 #[.val (.ref a), .val (.ref o)] [(.ref o), (.ref a)])) st3 ?_
  obtain ⟨T4, h4, X4, e4, W4, st4⟩ := putF X3 hx hZ hown (host := "") (Or.inl (hw _ (List.mem_of_getElem? (i := 32) rfl))) Via.refl e3 F0 E (Or.inl (hw _ (List.mem_of_getElem? (i := 33) rfl))) (hw _ (List.mem_of_getElem? (i := 3) rfl)) (ty := (.array .char)) (by decide) rfl rfl (g := (mkF m 10 #[.val (.ref a), .val (.ref o)] [(.ref o), (.ref a)])) rfl rfl (hb hby d_prog_2_method_9_10)
  have Fw4 := F0.same W4
  replace E := E.wr W4
  clear F0
  replace F_unreadable := F_unreadable.other W4 (Or.inr (slot_ne (Or.inr (hw _ (List.mem_of_getElem? (i := 12) rfl))) (Or.inl (hw _ (List.mem_of_getElem? (i := 33) rfl))) (by decide) (t := (.object "java/lang/String")) (t' := (.array .char)) (by decide) (by decide)))
  replace F_role := F_role.other W4 (Or.inr (slot_ne (Or.inl (hw _ (List.mem_of_getElem? (i := 64) rfl))) (Or.inl (hw _ (List.mem_of_getElem? (i := 33) rfl))) (by decide) (t := (.object "java/lang/String")) (t' := (.array .char)) (by decide) (by decide)))
  replace Eo := Eo.wr W4
  replace O := O.wr W4 ga
  replace hk := Nat.le_trans hk (Keep.of_wr W4).1
  replace K := K.wr W4 (Or.inl (List.mem_of_getElem? (i := 0) rfl))
  replace N := Fr.snoc X4 N ga
  refine own_go (B := T4.setTop (mkF m 13 #[.val (.ref a), .val (.ref o)] [])) st4 ?_
  refine own_go (B := T4.setTop (mkF m 14 #[.val (.ref a), .val (.ref o)] [(.ref a)])) (fun t k => ?_) ?_
  · show Steps p.tables e below (T4.setTop (mkF m 13 #[.val (.ref a), .val (.ref o)] [])) _
    refine XS.aloadN X4.here hx rfl (hb hby d_prog_2_method_9_13) rfl rfl ?_
    show Steps p.tables e below (T4.setTop (mkF m 14 #[.val (.ref a), .val (.ref o)] [(.ref a)])) _
    exact k
  obtain ⟨fs, hr, hrun, hended, hEnd⟩ := X4.leaveW hS (by rw [e4]; exact hk) (v := some (.ref a)) (fun h => by rw [Bd.returns] at h; cases h)
  refine ⟨_, _, own_retA X4 hx rfl Bd.returns rfl (hb hby d_prog_2_method_9_14) hr, hfin _ _ ⟨hrun, hended, _, _, rfl, ?_, hEnd.1, hEnd.2.1, hEnd.2.2.1, hEnd.2.2.2.mono (by decide) (by decide)⟩⟩
  show QSetpassword Z a o v0 h0 n0 _ T4.heap _
  rw [e4]
  exact ⟨rfl, N, K, Fw4, F_unreadable, F_role⟩
def Q0 (Z : State) (p1 : Int32) (p2 : Int32) (p3 : Int32) (p4 : Int32) (wE : Addr) (h0 : Heap) (n0 : Nat) (v : Option Value) (h : Heap) (L : List Loc) : Prop := v = some (.int 1) ∧ Fr n0 L
theorem ef_0 (m : MethodId) (p1 : Int32) (p2 : Int32) (p3 : Int32) (p4 : Int32) : entryFrame m #[(.int p1), (.int p2), (.int p3), (.int p4)] maxLocals = mkF m 0 #[.val (.int p1), .val (.int p2), .val (.int p3), .val (.int p4), .unset, .unset, .unset, .unset, .unset, .unset, .unset, .unset, .unset, .unset, .unset, .unset, .unset, .unset] [] := by first | (simp [entryFrame, mkF, argsToLocals, Value.category, maxLocals]; done) | rfl | (rfl)
set_option maxRecDepth 65536 in
set_option maxHeartbeats 40000000 in
theorem rm0 (l : Launch) (Z : State) (a0 : Array Value) (hw : ∀ d ∈ tables_1, d.before a0 Z = true) (ws : List Jvm.Cond) (p1 : Int32) (p2 : Int32) (p3 : Int32) (p4 : Int32) (wE : Addr) (h0 : Heap) (n0 : Nat) (O : Old Z n0 h0) (S_E : Sta Z Z.heap "java/util/Optional" "EMPTY" "Ljava/util/Optional;" (.ref wE)) (E_E : Exa Z Z.heap wE "java/util/Optional") (F_E : Fld Z Z.heap wE "java/util/Optional" "value" "Ljava/lang/Object;" .null) :
    MetFree l x (head1 (Jvm.Cond.code x code maxLocals ret :: ws) room_1) (fun as_ U => as_ = #[(.int p1), (.int p2), (.int p3), (.int p4)] ∧ Z.Warmed39 U.vm ∧ U.heap = h0) (fun _ _ _ _ _ => True) (fun _ U oo_ U' => ∃ vv_ LL_, oo_ = .returned vv_ ∧ Q0 Z p1 p2 p3 p4 wE h0 n0 vv_ U'.heap LL_ ∧ ReturnedEndW U oo_ U' LL_ room_1.cells room_1.slots) := by
  refine MetFree.of_bodySF (plainFor_of_name pn_3) hisR ?_
  intro p e s m args below meth c s₁ Bd hml0 hP hK
  obtain ⟨rfl, hZ, hh⟩ := hP
  have hx := Bd.exec
  have hby := Bd.bytes
  have hml : c.maxLocals = 18 := hml0
  have hown : s.vm.findClass "com/example/fixity/fixity/engine/AccountRequestPasswordPinLaw" = some m.cls := findClass_of_methodNamed Bd.named
  have hnm := (name_of_methodNamed Bd.named Bd.method).1
  have X0 : Stand p l e room_1 (s.setVm s.vm) m #[(.int p1), (.int p2), (.int p3), (.int p4)] below meth c s₁ [] 0 0 := Stand.of_body Bd
  have e0 : s₁.heap = h0 := by rw [← hh, Bd.state]; rfl
  have N := Fr.nil n0
  have hown : (s.setVm s.vm).vm.findClass "com/example/fixity/fixity/engine/AccountRequestPasswordPinLaw" = some m.cls := hown
  have hZ : Z.Warmed39 (s.setVm s.vm).vm := hZ
  have hS : s.Since s.vm h0.size := (State.WarmedH.refl s).since _
  have hk : h0.size ≤ h0.size := Nat.le_refl _
  refine own_go (B := s₁.setTop (mkF m 0 #[.val (.int p1), .val (.int p2), .val (.int p3), .val (.int p4), .unset, .unset, .unset, .unset, .unset, .unset, .unset, .unset, .unset, .unset, .unset, .unset, .unset, .unset] [])) (fun t k => castTop (ef_0 m p1 p2 p3 p4) k) ?_
  refine own_abs (fun P hfin => ?_)
  refine own_go (B := s₁.setTop (mkF m 5 #[.val (.int p1), .val (.int p2), .val (.int p3), .val (.int p4), .unset, .unset, .unset, .unset, .unset, .unset, .unset, .unset, .unset, .unset, .unset, .unset, .unset, .unset] [(.int ((p1 &&& (65535 : Int32)).toUInt32.toUInt16.toUInt32.toInt32))])) (fun t k => ?_) ?_
  · show Steps p.tables e below (s₁.setTop (mkF m 0 #[.val (.int p1), .val (.int p2), .val (.int p3), .val (.int p4), .unset, .unset, .unset, .unset, .unset, .unset, .unset, .unset, .unset, .unset, .unset, .unset, .unset, .unset] [])) _
    refine XS.iloadN X0.here hx rfl (hb hby at_0) rfl ?_
    show Steps p.tables e below (s₁.setTop (mkF m 1 #[.val (.int p1), .val (.int p2), .val (.int p3), .val (.int p4), .unset, .unset, .unset, .unset, .unset, .unset, .unset, .unset, .unset, .unset, .unset, .unset, .unset, .unset] [(.int p1)])) _
    refine X0.ldcInt hx hown (mvT hZ (hw _ (List.mem_of_getElem? (i := 0) rfl))) (g := (mkF m 1 #[.val (.int p1), .val (.int p2), .val (.int p3), .val (.int p4), .unset, .unset, .unset, .unset, .unset, .unset, .unset, .unset, .unset, .unset, .unset, .unset, .unset, .unset] [(.int p1)])) rfl (hb hby at_1) _ ?_
    show Steps p.tables e below (s₁.setTop (mkF m 3 #[.val (.int p1), .val (.int p2), .val (.int p3), .val (.int p4), .unset, .unset, .unset, .unset, .unset, .unset, .unset, .unset, .unset, .unset, .unset, .unset, .unset, .unset] [(.int (65535 : Int32)), (.int p1)])) _
    refine XS.iand X0.here hx rfl (hb hby at_3) rfl ?_
    show Steps p.tables e below (s₁.setTop (mkF m 4 #[.val (.int p1), .val (.int p2), .val (.int p3), .val (.int p4), .unset, .unset, .unset, .unset, .unset, .unset, .unset, .unset, .unset, .unset, .unset, .unset, .unset, .unset] [(.int (p1 &&& (65535 : Int32)))])) _
    refine XS.i2c X0.here hx rfl (hb hby at_4) rfl ?_
    show Steps p.tables e below (s₁.setTop (mkF m 5 #[.val (.int p1), .val (.int p2), .val (.int p3), .val (.int p4), .unset, .unset, .unset, .unset, .unset, .unset, .unset, .unset, .unset, .unset, .unset, .unset, .unset, .unset] [(.int ((p1 &&& (65535 : Int32)).toUInt32.toUInt16.toUInt32.toInt32))])) _
    exact k
  obtain ⟨x0, hx0⟩ : ∃ z : Int32, z = ((p1 &&& (65535 : Int32)).toUInt32.toUInt16.toUInt32.toInt32) := ⟨_, rfl⟩
  rw [← hx0]
  have cx0 : nar .char x0 = x0 := by rw [hx0]; exact own_nc2 _
  refine own_go (B := s₁.setTop (mkF m 12 #[.val (.int p1), .val (.int p2), .val (.int p3), .val (.int p4), .val (.int x0), .unset, .unset, .unset, .unset, .unset, .unset, .unset, .unset, .unset, .unset, .unset, .unset, .unset] [(.int ((p2 &&& (65535 : Int32)).toUInt32.toUInt16.toUInt32.toInt32))])) (fun t k => ?_) ?_
  · show Steps p.tables e below (s₁.setTop (mkF m 5 #[.val (.int p1), .val (.int p2), .val (.int p3), .val (.int p4), .unset, .unset, .unset, .unset, .unset, .unset, .unset, .unset, .unset, .unset, .unset, .unset, .unset, .unset] [(.int x0)])) _
    refine XS.istore X0.here hx rfl (hb hby at_5) rfl (l' := #[.val (.int p1), .val (.int p2), .val (.int p3), .val (.int p4), .val (.int x0), .unset, .unset, .unset, .unset, .unset, .unset, .unset, .unset, .unset, .unset, .unset, .unset, .unset]) rfl ?_
    show Steps p.tables e below (s₁.setTop (mkF m 7 #[.val (.int p1), .val (.int p2), .val (.int p3), .val (.int p4), .val (.int x0), .unset, .unset, .unset, .unset, .unset, .unset, .unset, .unset, .unset, .unset, .unset, .unset, .unset] [])) _
    refine XS.iloadN X0.here hx rfl (hb hby at_7) rfl ?_
    show Steps p.tables e below (s₁.setTop (mkF m 8 #[.val (.int p1), .val (.int p2), .val (.int p3), .val (.int p4), .val (.int x0), .unset, .unset, .unset, .unset, .unset, .unset, .unset, .unset, .unset, .unset, .unset, .unset, .unset] [(.int p2)])) _
    refine X0.ldcInt hx hown (mvT hZ (hw _ (List.mem_of_getElem? (i := 0) rfl))) (g := (mkF m 8 #[.val (.int p1), .val (.int p2), .val (.int p3), .val (.int p4), .val (.int x0), .unset, .unset, .unset, .unset, .unset, .unset, .unset, .unset, .unset, .unset, .unset, .unset, .unset] [(.int p2)])) rfl (hb hby at_8) _ ?_
    show Steps p.tables e below (s₁.setTop (mkF m 10 #[.val (.int p1), .val (.int p2), .val (.int p3), .val (.int p4), .val (.int x0), .unset, .unset, .unset, .unset, .unset, .unset, .unset, .unset, .unset, .unset, .unset, .unset, .unset] [(.int (65535 : Int32)), (.int p2)])) _
    refine XS.iand X0.here hx rfl (hb hby at_10) rfl ?_
    show Steps p.tables e below (s₁.setTop (mkF m 11 #[.val (.int p1), .val (.int p2), .val (.int p3), .val (.int p4), .val (.int x0), .unset, .unset, .unset, .unset, .unset, .unset, .unset, .unset, .unset, .unset, .unset, .unset, .unset] [(.int (p2 &&& (65535 : Int32)))])) _
    refine XS.i2c X0.here hx rfl (hb hby at_11) rfl ?_
    show Steps p.tables e below (s₁.setTop (mkF m 12 #[.val (.int p1), .val (.int p2), .val (.int p3), .val (.int p4), .val (.int x0), .unset, .unset, .unset, .unset, .unset, .unset, .unset, .unset, .unset, .unset, .unset, .unset, .unset] [(.int ((p2 &&& (65535 : Int32)).toUInt32.toUInt16.toUInt32.toInt32))])) _
    exact k
  obtain ⟨x1, hx1⟩ : ∃ z : Int32, z = ((p2 &&& (65535 : Int32)).toUInt32.toUInt16.toUInt32.toInt32) := ⟨_, rfl⟩
  rw [← hx1]
  have cx1 : nar .char x1 = x1 := by rw [hx1]; exact own_nc2 _
  refine own_go (B := s₁.setTop (mkF m 19 #[.val (.int p1), .val (.int p2), .val (.int p3), .val (.int p4), .val (.int x0), .val (.int x1), .unset, .unset, .unset, .unset, .unset, .unset, .unset, .unset, .unset, .unset, .unset, .unset] [(.int ((p3 &&& (65535 : Int32)).toUInt32.toUInt16.toUInt32.toInt32))])) (fun t k => ?_) ?_
  · show Steps p.tables e below (s₁.setTop (mkF m 12 #[.val (.int p1), .val (.int p2), .val (.int p3), .val (.int p4), .val (.int x0), .unset, .unset, .unset, .unset, .unset, .unset, .unset, .unset, .unset, .unset, .unset, .unset, .unset] [(.int x1)])) _
    refine XS.istore X0.here hx rfl (hb hby at_12) rfl (l' := #[.val (.int p1), .val (.int p2), .val (.int p3), .val (.int p4), .val (.int x0), .val (.int x1), .unset, .unset, .unset, .unset, .unset, .unset, .unset, .unset, .unset, .unset, .unset, .unset]) rfl ?_
    show Steps p.tables e below (s₁.setTop (mkF m 14 #[.val (.int p1), .val (.int p2), .val (.int p3), .val (.int p4), .val (.int x0), .val (.int x1), .unset, .unset, .unset, .unset, .unset, .unset, .unset, .unset, .unset, .unset, .unset, .unset] [])) _
    refine XS.iloadN X0.here hx rfl (hb hby at_14) rfl ?_
    show Steps p.tables e below (s₁.setTop (mkF m 15 #[.val (.int p1), .val (.int p2), .val (.int p3), .val (.int p4), .val (.int x0), .val (.int x1), .unset, .unset, .unset, .unset, .unset, .unset, .unset, .unset, .unset, .unset, .unset, .unset] [(.int p3)])) _
    refine X0.ldcInt hx hown (mvT hZ (hw _ (List.mem_of_getElem? (i := 0) rfl))) (g := (mkF m 15 #[.val (.int p1), .val (.int p2), .val (.int p3), .val (.int p4), .val (.int x0), .val (.int x1), .unset, .unset, .unset, .unset, .unset, .unset, .unset, .unset, .unset, .unset, .unset, .unset] [(.int p3)])) rfl (hb hby at_15) _ ?_
    show Steps p.tables e below (s₁.setTop (mkF m 17 #[.val (.int p1), .val (.int p2), .val (.int p3), .val (.int p4), .val (.int x0), .val (.int x1), .unset, .unset, .unset, .unset, .unset, .unset, .unset, .unset, .unset, .unset, .unset, .unset] [(.int (65535 : Int32)), (.int p3)])) _
    refine XS.iand X0.here hx rfl (hb hby at_17) rfl ?_
    show Steps p.tables e below (s₁.setTop (mkF m 18 #[.val (.int p1), .val (.int p2), .val (.int p3), .val (.int p4), .val (.int x0), .val (.int x1), .unset, .unset, .unset, .unset, .unset, .unset, .unset, .unset, .unset, .unset, .unset, .unset] [(.int (p3 &&& (65535 : Int32)))])) _
    refine XS.i2c X0.here hx rfl (hb hby at_18) rfl ?_
    show Steps p.tables e below (s₁.setTop (mkF m 19 #[.val (.int p1), .val (.int p2), .val (.int p3), .val (.int p4), .val (.int x0), .val (.int x1), .unset, .unset, .unset, .unset, .unset, .unset, .unset, .unset, .unset, .unset, .unset, .unset] [(.int ((p3 &&& (65535 : Int32)).toUInt32.toUInt16.toUInt32.toInt32))])) _
    exact k
  obtain ⟨x2, hx2⟩ : ∃ z : Int32, z = ((p3 &&& (65535 : Int32)).toUInt32.toUInt16.toUInt32.toInt32) := ⟨_, rfl⟩
  rw [← hx2]
  have cx2 : nar .char x2 = x2 := by rw [hx2]; exact own_nc2 _
  refine own_go (B := s₁.setTop (mkF m 22 #[.val (.int p1), .val (.int p2), .val (.int p3), .val (.int p4), .val (.int x0), .val (.int x1), .val (.int x2), .unset, .unset, .unset, .unset, .unset, .unset, .unset, .unset, .unset, .unset, .unset] [(.int (3 : Int32))])) (fun t k => ?_) ?_
  · show Steps p.tables e below (s₁.setTop (mkF m 19 #[.val (.int p1), .val (.int p2), .val (.int p3), .val (.int p4), .val (.int x0), .val (.int x1), .unset, .unset, .unset, .unset, .unset, .unset, .unset, .unset, .unset, .unset, .unset, .unset] [(.int x2)])) _
    refine XS.istore X0.here hx rfl (hb hby at_19) rfl (l' := #[.val (.int p1), .val (.int p2), .val (.int p3), .val (.int p4), .val (.int x0), .val (.int x1), .val (.int x2), .unset, .unset, .unset, .unset, .unset, .unset, .unset, .unset, .unset, .unset, .unset]) rfl ?_
    show Steps p.tables e below (s₁.setTop (mkF m 21 #[.val (.int p1), .val (.int p2), .val (.int p3), .val (.int p4), .val (.int x0), .val (.int x1), .val (.int x2), .unset, .unset, .unset, .unset, .unset, .unset, .unset, .unset, .unset, .unset, .unset] [])) _
    refine XS.iconst X0.here hx rfl (hb hby at_21) ?_
    show Steps p.tables e below (s₁.setTop (mkF m 22 #[.val (.int p1), .val (.int p2), .val (.int p3), .val (.int p4), .val (.int x0), .val (.int x1), .val (.int x2), .unset, .unset, .unset, .unset, .unset, .unset, .unset, .unset, .unset, .unset, .unset] [(.int (3 : Int32))])) _
    exact k
  obtain ⟨T1, h1, k1, X1, e1, E1, A1, G1, st1⟩ := newPE X0 hx hZ (hw _ (List.mem_of_getElem? (i := 1) rfl)) e0 (g := (mkF m 22 #[.val (.int p1), .val (.int p2), .val (.int p3), .val (.int p4), .val (.int x0), .val (.int x1), .val (.int x2), .unset, .unset, .unset, .unset, .unset, .unset, .unset, .unset, .unset, .unset, .unset] [(.int (3 : Int32))])) rfl (hb hby at_22) rfl (by decide) (cap := 3) (by decide) (by decide) (by decide) (by decide) (ad := "[C") (by decide)
  obtain ⟨b1, g1⟩ : ∃ z, z = h0.size := ⟨_, rfl⟩
  rw [← g1] at A1 G1 st1
  have g_b1 : n0 ≤ b1 := Nat.le_trans (own_oldsz O) (Nat.le_of_eq g1.symm)
  replace O := O.ext E1
  replace hk := Nat.le_trans hk E1.1
  have V1 : Arv Z h1 b1 k1 .char (3 : Int32) [(.int (0 : Int32)), (.int (0 : Int32)), (.int (0 : Int32))] (.int (0 : Int32)) := (Arv.new A1 (by decide)).pad (pad_rep [] (.int (0 : Int32)) 3)
  refine own_go (B := T1.setTop (mkF m 24 #[.val (.int p1), .val (.int p2), .val (.int p3), .val (.int p4), .val (.int x0), .val (.int x1), .val (.int x2), .unset, .unset, .unset, .unset, .unset, .unset, .unset, .unset, .unset, .unset, .unset] [(.ref b1)])) st1 ?_
  refine own_go (B := T1.setTop (mkF m 31 #[.val (.int p1), .val (.int p2), .val (.int p3), .val (.int p4), .val (.int x0), .val (.int x1), .val (.int x2), .val (.ref b1), .unset, .unset, .unset, .unset, .unset, .unset, .unset, .unset, .unset, .unset] [(.int x0), (.int (0 : Int32)), (.ref b1)])) (fun t k => ?_) ?_
  · show Steps p.tables e below (T1.setTop (mkF m 24 #[.val (.int p1), .val (.int p2), .val (.int p3), .val (.int p4), .val (.int x0), .val (.int x1), .val (.int x2), .unset, .unset, .unset, .unset, .unset, .unset, .unset, .unset, .unset, .unset, .unset] [(.ref b1)])) _
    refine XS.astore X1.here hx rfl (hb hby at_24) rfl rfl (l' := #[.val (.int p1), .val (.int p2), .val (.int p3), .val (.int p4), .val (.int x0), .val (.int x1), .val (.int x2), .val (.ref b1), .unset, .unset, .unset, .unset, .unset, .unset, .unset, .unset, .unset, .unset]) rfl ?_
    show Steps p.tables e below (T1.setTop (mkF m 26 #[.val (.int p1), .val (.int p2), .val (.int p3), .val (.int p4), .val (.int x0), .val (.int x1), .val (.int x2), .val (.ref b1), .unset, .unset, .unset, .unset, .unset, .unset, .unset, .unset, .unset, .unset] [])) _
    refine XS.aload X1.here hx rfl (hb hby at_26) rfl rfl ?_
    show Steps p.tables e below (T1.setTop (mkF m 28 #[.val (.int p1), .val (.int p2), .val (.int p3), .val (.int p4), .val (.int x0), .val (.int x1), .val (.int x2), .val (.ref b1), .unset, .unset, .unset, .unset, .unset, .unset, .unset, .unset, .unset, .unset] [(.ref b1)])) _
    refine XS.iconst X1.here hx rfl (hb hby at_28) ?_
    show Steps p.tables e below (T1.setTop (mkF m 29 #[.val (.int p1), .val (.int p2), .val (.int p3), .val (.int p4), .val (.int x0), .val (.int x1), .val (.int x2), .val (.ref b1), .unset, .unset, .unset, .unset, .unset, .unset, .unset, .unset, .unset, .unset] [(.int (0 : Int32)), (.ref b1)])) _
    refine XS.iload X1.here hx rfl (hb hby at_29) rfl ?_
    show Steps p.tables e below (T1.setTop (mkF m 31 #[.val (.int p1), .val (.int p2), .val (.int p3), .val (.int p4), .val (.int x0), .val (.int x1), .val (.int x2), .val (.ref b1), .unset, .unset, .unset, .unset, .unset, .unset, .unset, .unset, .unset, .unset] [(.int x0), (.int (0 : Int32)), (.ref b1)])) _
    exact k
  obtain ⟨cl2, Ar2, q2, Sz2, Nn2, Hs2, Gt2⟩ := V1
  have hin2 : ¬ ((0 : Int32) < 0 ∨ cl2.slots.size ≤ ((0 : Int32)).toNatClampNeg) := inb_of Sz2 ⟨by decide, by decide⟩
  obtain ⟨T2, h2, X2, e2, W2, st2⟩ := stC X1 hx hZ e1 Ar2 (j := (0 : Int32)) hin2 (g := (mkF m 31 #[.val (.int p1), .val (.int p2), .val (.int p3), .val (.int p4), .val (.int x0), .val (.int x1), .val (.int x2), .val (.ref b1), .unset, .unset, .unset, .unset, .unset, .unset, .unset, .unset, .unset, .unset] [(.int x0), (.int (0 : Int32)), (.ref b1)])) rfl rfl (hb hby at_31)
  have V2 := Arv.set Ar2 q2 Sz2 Nn2 Hs2 Gt2 (fits_nar_char _) W2 0 rfl (Nat.le_of_ble_eq_true rfl)
  rw [cx0] at V2
  have V2 : Arv Z h2 b1 k1 .char (3 : Int32) [(.int x0), (.int (0 : Int32)), (.int (0 : Int32))] (.int (0 : Int32)) := V2
  replace G1 := G1.wr W2
  replace O := O.wr W2 g_b1
  replace hk := Nat.le_trans hk (Keep.of_wr W2).1
  replace N := Fr.snoc X2 N g_b1
  refine own_go (B := T2.setTop (mkF m 32 #[.val (.int p1), .val (.int p2), .val (.int p3), .val (.int p4), .val (.int x0), .val (.int x1), .val (.int x2), .val (.ref b1), .unset, .unset, .unset, .unset, .unset, .unset, .unset, .unset, .unset, .unset] [])) st2 ?_
  refine own_go (B := T2.setTop (mkF m 37 #[.val (.int p1), .val (.int p2), .val (.int p3), .val (.int p4), .val (.int x0), .val (.int x1), .val (.int x2), .val (.ref b1), .unset, .unset, .unset, .unset, .unset, .unset, .unset, .unset, .unset, .unset] [(.int x1), (.int (1 : Int32)), (.ref b1)])) (fun t k => ?_) ?_
  · show Steps p.tables e below (T2.setTop (mkF m 32 #[.val (.int p1), .val (.int p2), .val (.int p3), .val (.int p4), .val (.int x0), .val (.int x1), .val (.int x2), .val (.ref b1), .unset, .unset, .unset, .unset, .unset, .unset, .unset, .unset, .unset, .unset] [])) _
    refine XS.aload X2.here hx rfl (hb hby at_32) rfl rfl ?_
    show Steps p.tables e below (T2.setTop (mkF m 34 #[.val (.int p1), .val (.int p2), .val (.int p3), .val (.int p4), .val (.int x0), .val (.int x1), .val (.int x2), .val (.ref b1), .unset, .unset, .unset, .unset, .unset, .unset, .unset, .unset, .unset, .unset] [(.ref b1)])) _
    refine XS.iconst X2.here hx rfl (hb hby at_34) ?_
    show Steps p.tables e below (T2.setTop (mkF m 35 #[.val (.int p1), .val (.int p2), .val (.int p3), .val (.int p4), .val (.int x0), .val (.int x1), .val (.int x2), .val (.ref b1), .unset, .unset, .unset, .unset, .unset, .unset, .unset, .unset, .unset, .unset] [(.int (1 : Int32)), (.ref b1)])) _
    refine XS.iload X2.here hx rfl (hb hby at_35) rfl ?_
    show Steps p.tables e below (T2.setTop (mkF m 37 #[.val (.int p1), .val (.int p2), .val (.int p3), .val (.int p4), .val (.int x0), .val (.int x1), .val (.int x2), .val (.ref b1), .unset, .unset, .unset, .unset, .unset, .unset, .unset, .unset, .unset, .unset] [(.int x1), (.int (1 : Int32)), (.ref b1)])) _
    exact k
  obtain ⟨cl3, Ar3, q3, Sz3, Nn3, Hs3, Gt3⟩ := V2
  have hin3 : ¬ ((1 : Int32) < 0 ∨ cl3.slots.size ≤ ((1 : Int32)).toNatClampNeg) := inb_of Sz3 ⟨by decide, by decide⟩
  obtain ⟨T3, h3, X3, e3, W3, st3⟩ := stC X2 hx hZ e2 Ar3 (j := (1 : Int32)) hin3 (g := (mkF m 37 #[.val (.int p1), .val (.int p2), .val (.int p3), .val (.int p4), .val (.int x0), .val (.int x1), .val (.int x2), .val (.ref b1), .unset, .unset, .unset, .unset, .unset, .unset, .unset, .unset, .unset, .unset] [(.int x1), (.int (1 : Int32)), (.ref b1)])) rfl rfl (hb hby at_37)
  have V3 := Arv.set Ar3 q3 Sz3 Nn3 Hs3 Gt3 (fits_nar_char _) W3 1 rfl (Nat.le_of_ble_eq_true rfl)
  rw [cx1] at V3
  have V3 : Arv Z h3 b1 k1 .char (3 : Int32) [(.int x0), (.int x1), (.int (0 : Int32))] (.int (0 : Int32)) := V3
  replace G1 := G1.wr W3
  replace O := O.wr W3 g_b1
  replace hk := Nat.le_trans hk (Keep.of_wr W3).1
  replace N := Fr.snoc X3 N g_b1
  refine own_go (B := T3.setTop (mkF m 38 #[.val (.int p1), .val (.int p2), .val (.int p3), .val (.int p4), .val (.int x0), .val (.int x1), .val (.int x2), .val (.ref b1), .unset, .unset, .unset, .unset, .unset, .unset, .unset, .unset, .unset, .unset] [])) st3 ?_
  refine own_go (B := T3.setTop (mkF m 43 #[.val (.int p1), .val (.int p2), .val (.int p3), .val (.int p4), .val (.int x0), .val (.int x1), .val (.int x2), .val (.ref b1), .unset, .unset, .unset, .unset, .unset, .unset, .unset, .unset, .unset, .unset] [(.int x2), (.int (2 : Int32)), (.ref b1)])) (fun t k => ?_) ?_
  · show Steps p.tables e below (T3.setTop (mkF m 38 #[.val (.int p1), .val (.int p2), .val (.int p3), .val (.int p4), .val (.int x0), .val (.int x1), .val (.int x2), .val (.ref b1), .unset, .unset, .unset, .unset, .unset, .unset, .unset, .unset, .unset, .unset] [])) _
    refine XS.aload X3.here hx rfl (hb hby at_38) rfl rfl ?_
    show Steps p.tables e below (T3.setTop (mkF m 40 #[.val (.int p1), .val (.int p2), .val (.int p3), .val (.int p4), .val (.int x0), .val (.int x1), .val (.int x2), .val (.ref b1), .unset, .unset, .unset, .unset, .unset, .unset, .unset, .unset, .unset, .unset] [(.ref b1)])) _
    refine XS.iconst X3.here hx rfl (hb hby at_40) ?_
    show Steps p.tables e below (T3.setTop (mkF m 41 #[.val (.int p1), .val (.int p2), .val (.int p3), .val (.int p4), .val (.int x0), .val (.int x1), .val (.int x2), .val (.ref b1), .unset, .unset, .unset, .unset, .unset, .unset, .unset, .unset, .unset, .unset] [(.int (2 : Int32)), (.ref b1)])) _
    refine XS.iload X3.here hx rfl (hb hby at_41) rfl ?_
    show Steps p.tables e below (T3.setTop (mkF m 43 #[.val (.int p1), .val (.int p2), .val (.int p3), .val (.int p4), .val (.int x0), .val (.int x1), .val (.int x2), .val (.ref b1), .unset, .unset, .unset, .unset, .unset, .unset, .unset, .unset, .unset, .unset] [(.int x2), (.int (2 : Int32)), (.ref b1)])) _
    exact k
  obtain ⟨cl4, Ar4, q4, Sz4, Nn4, Hs4, Gt4⟩ := V3
  have hin4 : ¬ ((2 : Int32) < 0 ∨ cl4.slots.size ≤ ((2 : Int32)).toNatClampNeg) := inb_of Sz4 ⟨by decide, by decide⟩
  obtain ⟨T4, h4, X4, e4, W4, st4⟩ := stC X3 hx hZ e3 Ar4 (j := (2 : Int32)) hin4 (g := (mkF m 43 #[.val (.int p1), .val (.int p2), .val (.int p3), .val (.int p4), .val (.int x0), .val (.int x1), .val (.int x2), .val (.ref b1), .unset, .unset, .unset, .unset, .unset, .unset, .unset, .unset, .unset, .unset] [(.int x2), (.int (2 : Int32)), (.ref b1)])) rfl rfl (hb hby at_43)
  have V4 := Arv.set Ar4 q4 Sz4 Nn4 Hs4 Gt4 (fits_nar_char _) W4 2 rfl (Nat.le_of_ble_eq_true rfl)
  rw [cx2] at V4
  have V4 : Arv Z h4 b1 k1 .char (3 : Int32) [(.int x0), (.int x1), (.int x2)] (.int (0 : Int32)) := V4
  replace G1 := G1.wr W4
  replace O := O.wr W4 g_b1
  replace hk := Nat.le_trans hk (Keep.of_wr W4).1
  replace N := Fr.snoc X4 N g_b1
  refine own_go (B := T4.setTop (mkF m 44 #[.val (.int p1), .val (.int p2), .val (.int p3), .val (.int p4), .val (.int x0), .val (.int x1), .val (.int x2), .val (.ref b1), .unset, .unset, .unset, .unset, .unset, .unset, .unset, .unset, .unset, .unset] [])) st4 ?_
  refine own_go (B := T4.setTop (mkF m 45 #[.val (.int p1), .val (.int p2), .val (.int p3), .val (.int p4), .val (.int x0), .val (.int x1), .val (.int x2), .val (.ref b1), .unset, .unset, .unset, .unset, .unset, .unset, .unset, .unset, .unset, .unset] [(.int (0 : Int32))])) (fun t k => ?_) ?_
  · show Steps p.tables e below (T4.setTop (mkF m 44 #[.val (.int p1), .val (.int p2), .val (.int p3), .val (.int p4), .val (.int x0), .val (.int x1), .val (.int x2), .val (.ref b1), .unset, .unset, .unset, .unset, .unset, .unset, .unset, .unset, .unset, .unset] [])) _
    refine XS.iconst X4.here hx rfl (hb hby at_44) ?_
    show Steps p.tables e below (T4.setTop (mkF m 45 #[.val (.int p1), .val (.int p2), .val (.int p3), .val (.int p4), .val (.int x0), .val (.int x1), .val (.int x2), .val (.ref b1), .unset, .unset, .unset, .unset, .unset, .unset, .unset, .unset, .unset, .unset] [(.int (0 : Int32))])) _
    exact k
  obtain ⟨T5, h5, k5, X5, e5, E5, A5, G5, st5⟩ := newPE X4 hx hZ (hw _ (List.mem_of_getElem? (i := 1) rfl)) e4 (g := (mkF m 45 #[.val (.int p1), .val (.int p2), .val (.int p3), .val (.int p4), .val (.int x0), .val (.int x1), .val (.int x2), .val (.ref b1), .unset, .unset, .unset, .unset, .unset, .unset, .unset, .unset, .unset, .unset] [(.int (0 : Int32))])) rfl (hb hby at_45) rfl (by decide) (cap := 0) (by decide) (by decide) (by decide) (by decide) (ad := "[C") (by decide)
  obtain ⟨b5, g5⟩ : ∃ z, z = h4.size := ⟨_, rfl⟩
  rw [← g5] at A5 G5 st5
  have lt_b1_b5 : b1 < b5 := Nat.lt_of_lt_of_le G1.lt (Nat.le_of_eq g5.symm)
  have g_b5 : n0 ≤ b5 := Nat.le_trans (own_oldsz O) (Nat.le_of_eq g5.symm)
  replace G1 := G1.ext E5
  replace V4 := V4.ext E5
  replace O := O.ext E5
  replace hk := Nat.le_trans hk E5.1
  have V5 : Arv Z h5 b5 k5 .char (0 : Int32) [] (.int (0 : Int32)) := (Arv.new A5 (by decide)).pad (pad_rep [] (.int (0 : Int32)) 0)
  refine own_go (B := T5.setTop (mkF m 47 #[.val (.int p1), .val (.int p2), .val (.int p3), .val (.int p4), .val (.int x0), .val (.int x1), .val (.int x2), .val (.ref b1), .unset, .unset, .unset, .unset, .unset, .unset, .unset, .unset, .unset, .unset] [(.ref b5)])) st5 ?_
  refine own_go (B := T5.setTop (mkF m 49 #[.val (.int p1), .val (.int p2), .val (.int p3), .val (.int p4), .val (.int x0), .val (.int x1), .val (.int x2), .val (.ref b1), .val (.ref b5), .unset, .unset, .unset, .unset, .unset, .unset, .unset, .unset, .unset] [])) (fun t k => ?_) ?_
  · show Steps p.tables e below (T5.setTop (mkF m 47 #[.val (.int p1), .val (.int p2), .val (.int p3), .val (.int p4), .val (.int x0), .val (.int x1), .val (.int x2), .val (.ref b1), .unset, .unset, .unset, .unset, .unset, .unset, .unset, .unset, .unset, .unset] [(.ref b5)])) _
    refine XS.astore X5.here hx rfl (hb hby at_47) rfl rfl (l' := #[.val (.int p1), .val (.int p2), .val (.int p3), .val (.int p4), .val (.int x0), .val (.int x1), .val (.int x2), .val (.ref b1), .val (.ref b5), .unset, .unset, .unset, .unset, .unset, .unset, .unset, .unset, .unset]) rfl ?_
    show Steps p.tables e below (T5.setTop (mkF m 49 #[.val (.int p1), .val (.int p2), .val (.int p3), .val (.int p4), .val (.int x0), .val (.int x1), .val (.int x2), .val (.ref b1), .val (.ref b5), .unset, .unset, .unset, .unset, .unset, .unset, .unset, .unset, .unset] [])) _
    exact k
  by_cases ka : (p4 &&& (1 : Int32)) = (0 : Int32)
  · by_cases kb : (p4 &&& (2 : Int32)) = (0 : Int32)
    · refine own_go (B := T5.setTop (mkF m 103 #[.val (.int p1), .val (.int p2), .val (.int p3), .val (.int p4), .val (.int x0), .val (.int x1), .val (.int x2), .val (.ref b1), .val (.ref b5), .val (.int (0 : Int32)), .val (.int (0 : Int32)), .val (.ref b1), .val (.ref b5), .unset, .unset, .unset, .unset, .unset] [])) (fun t k => ?_) ?_
      · show Steps p.tables e below (T5.setTop (mkF m 49 #[.val (.int p1), .val (.int p2), .val (.int p3), .val (.int p4), .val (.int x0), .val (.int x1), .val (.int x2), .val (.ref b1), .val (.ref b5), .unset, .unset, .unset, .unset, .unset, .unset, .unset, .unset, .unset] [])) _
        refine XS.iloadN X5.here hx rfl (hb hby at_49) rfl ?_
        show Steps p.tables e below (T5.setTop (mkF m 50 #[.val (.int p1), .val (.int p2), .val (.int p3), .val (.int p4), .val (.int x0), .val (.int x1), .val (.int x2), .val (.ref b1), .val (.ref b5), .unset, .unset, .unset, .unset, .unset, .unset, .unset, .unset, .unset] [(.int p4)])) _
        refine XS.iconst X5.here hx rfl (hb hby at_50) ?_
        show Steps p.tables e below (T5.setTop (mkF m 51 #[.val (.int p1), .val (.int p2), .val (.int p3), .val (.int p4), .val (.int x0), .val (.int x1), .val (.int x2), .val (.ref b1), .val (.ref b5), .unset, .unset, .unset, .unset, .unset, .unset, .unset, .unset, .unset] [(.int (1 : Int32)), (.int p4)])) _
        refine XS.iand X5.here hx rfl (hb hby at_51) rfl ?_
        show Steps p.tables e below (T5.setTop (mkF m 52 #[.val (.int p1), .val (.int p2), .val (.int p3), .val (.int p4), .val (.int x0), .val (.int x1), .val (.int x2), .val (.ref b1), .val (.ref b5), .unset, .unset, .unset, .unset, .unset, .unset, .unset, .unset, .unset] [(.int (p4 &&& (1 : Int32)))])) _
        refine XS.ifYes X5.here hx rfl (pc0 := 52) (pc' := 59) rfl (hb hby at_52) rfl ((if0 _ _).trans (teq ka).1) (by decide) (by decide) ?_
        show Steps p.tables e below (T5.setTop (mkF m 59 #[.val (.int p1), .val (.int p2), .val (.int p3), .val (.int p4), .val (.int x0), .val (.int x1), .val (.int x2), .val (.ref b1), .val (.ref b5), .unset, .unset, .unset, .unset, .unset, .unset, .unset, .unset, .unset] [])) _
        refine XS.iconst X5.here hx rfl (hb hby at_59) ?_
        show Steps p.tables e below (T5.setTop (mkF m 60 #[.val (.int p1), .val (.int p2), .val (.int p3), .val (.int p4), .val (.int x0), .val (.int x1), .val (.int x2), .val (.ref b1), .val (.ref b5), .unset, .unset, .unset, .unset, .unset, .unset, .unset, .unset, .unset] [(.int (0 : Int32))])) _
        refine XS.istore X5.here hx rfl (hb hby at_60) rfl (l' := #[.val (.int p1), .val (.int p2), .val (.int p3), .val (.int p4), .val (.int x0), .val (.int x1), .val (.int x2), .val (.ref b1), .val (.ref b5), .val (.int (0 : Int32)), .unset, .unset, .unset, .unset, .unset, .unset, .unset, .unset]) rfl ?_
        show Steps p.tables e below (T5.setTop (mkF m 62 #[.val (.int p1), .val (.int p2), .val (.int p3), .val (.int p4), .val (.int x0), .val (.int x1), .val (.int x2), .val (.ref b1), .val (.ref b5), .val (.int (0 : Int32)), .unset, .unset, .unset, .unset, .unset, .unset, .unset, .unset] [])) _
        refine XS.iloadN X5.here hx rfl (hb hby at_62) rfl ?_
        show Steps p.tables e below (T5.setTop (mkF m 63 #[.val (.int p1), .val (.int p2), .val (.int p3), .val (.int p4), .val (.int x0), .val (.int x1), .val (.int x2), .val (.ref b1), .val (.ref b5), .val (.int (0 : Int32)), .unset, .unset, .unset, .unset, .unset, .unset, .unset, .unset] [(.int p4)])) _
        refine XS.iconst X5.here hx rfl (hb hby at_63) ?_
        show Steps p.tables e below (T5.setTop (mkF m 64 #[.val (.int p1), .val (.int p2), .val (.int p3), .val (.int p4), .val (.int x0), .val (.int x1), .val (.int x2), .val (.ref b1), .val (.ref b5), .val (.int (0 : Int32)), .unset, .unset, .unset, .unset, .unset, .unset, .unset, .unset] [(.int (2 : Int32)), (.int p4)])) _
        refine XS.iand X5.here hx rfl (hb hby at_64) rfl ?_
        show Steps p.tables e below (T5.setTop (mkF m 65 #[.val (.int p1), .val (.int p2), .val (.int p3), .val (.int p4), .val (.int x0), .val (.int x1), .val (.int x2), .val (.ref b1), .val (.ref b5), .val (.int (0 : Int32)), .unset, .unset, .unset, .unset, .unset, .unset, .unset, .unset] [(.int (p4 &&& (2 : Int32)))])) _
        refine XS.ifYes X5.here hx rfl (pc0 := 65) (pc' := 72) rfl (hb hby at_65) rfl ((if0 _ _).trans (teq kb).1) (by decide) (by decide) ?_
        show Steps p.tables e below (T5.setTop (mkF m 72 #[.val (.int p1), .val (.int p2), .val (.int p3), .val (.int p4), .val (.int x0), .val (.int x1), .val (.int x2), .val (.ref b1), .val (.ref b5), .val (.int (0 : Int32)), .unset, .unset, .unset, .unset, .unset, .unset, .unset, .unset] [])) _
        refine XS.iconst X5.here hx rfl (hb hby at_72) ?_
        show Steps p.tables e below (T5.setTop (mkF m 73 #[.val (.int p1), .val (.int p2), .val (.int p3), .val (.int p4), .val (.int x0), .val (.int x1), .val (.int x2), .val (.ref b1), .val (.ref b5), .val (.int (0 : Int32)), .unset, .unset, .unset, .unset, .unset, .unset, .unset, .unset] [(.int (0 : Int32))])) _
        refine XS.istore X5.here hx rfl (hb hby at_73) rfl (l' := #[.val (.int p1), .val (.int p2), .val (.int p3), .val (.int p4), .val (.int x0), .val (.int x1), .val (.int x2), .val (.ref b1), .val (.ref b5), .val (.int (0 : Int32)), .val (.int (0 : Int32)), .unset, .unset, .unset, .unset, .unset, .unset, .unset]) rfl ?_
        show Steps p.tables e below (T5.setTop (mkF m 75 #[.val (.int p1), .val (.int p2), .val (.int p3), .val (.int p4), .val (.int x0), .val (.int x1), .val (.int x2), .val (.ref b1), .val (.ref b5), .val (.int (0 : Int32)), .val (.int (0 : Int32)), .unset, .unset, .unset, .unset, .unset, .unset, .unset] [])) _
        refine XS.iload X5.here hx rfl (hb hby at_75) rfl ?_
        show Steps p.tables e below (T5.setTop (mkF m 77 #[.val (.int p1), .val (.int p2), .val (.int p3), .val (.int p4), .val (.int x0), .val (.int x1), .val (.int x2), .val (.ref b1), .val (.ref b5), .val (.int (0 : Int32)), .val (.int (0 : Int32)), .unset, .unset, .unset, .unset, .unset, .unset, .unset] [(.int (0 : Int32))])) _
        refine XS.ifYes X5.here hx rfl (pc0 := 77) (pc' := 85) rfl (hb hby at_77) rfl ((if0 _ _).trans (teq (by decide)).1) (by decide) (by decide) ?_
        show Steps p.tables e below (T5.setTop (mkF m 85 #[.val (.int p1), .val (.int p2), .val (.int p3), .val (.int p4), .val (.int x0), .val (.int x1), .val (.int x2), .val (.ref b1), .val (.ref b5), .val (.int (0 : Int32)), .val (.int (0 : Int32)), .unset, .unset, .unset, .unset, .unset, .unset, .unset] [])) _
        refine XS.aload X5.here hx rfl (hb hby at_85) rfl rfl ?_
        show Steps p.tables e below (T5.setTop (mkF m 87 #[.val (.int p1), .val (.int p2), .val (.int p3), .val (.int p4), .val (.int x0), .val (.int x1), .val (.int x2), .val (.ref b1), .val (.ref b5), .val (.int (0 : Int32)), .val (.int (0 : Int32)), .unset, .unset, .unset, .unset, .unset, .unset, .unset] [(.ref b1)])) _
        refine XS.astore X5.here hx rfl (hb hby at_87) rfl rfl (l' := #[.val (.int p1), .val (.int p2), .val (.int p3), .val (.int p4), .val (.int x0), .val (.int x1), .val (.int x2), .val (.ref b1), .val (.ref b5), .val (.int (0 : Int32)), .val (.int (0 : Int32)), .val (.ref b1), .unset, .unset, .unset, .unset, .unset, .unset]) rfl ?_
        show Steps p.tables e below (T5.setTop (mkF m 89 #[.val (.int p1), .val (.int p2), .val (.int p3), .val (.int p4), .val (.int x0), .val (.int x1), .val (.int x2), .val (.ref b1), .val (.ref b5), .val (.int (0 : Int32)), .val (.int (0 : Int32)), .val (.ref b1), .unset, .unset, .unset, .unset, .unset, .unset] [])) _
        refine XS.iload X5.here hx rfl (hb hby at_89) rfl ?_
        show Steps p.tables e below (T5.setTop (mkF m 91 #[.val (.int p1), .val (.int p2), .val (.int p3), .val (.int p4), .val (.int x0), .val (.int x1), .val (.int x2), .val (.ref b1), .val (.ref b5), .val (.int (0 : Int32)), .val (.int (0 : Int32)), .val (.ref b1), .unset, .unset, .unset, .unset, .unset, .unset] [(.int (0 : Int32))])) _
        refine XS.ifYes X5.here hx rfl (pc0 := 91) (pc' := 99) rfl (hb hby at_91) rfl ((if0 _ _).trans (teq (by decide)).1) (by decide) (by decide) ?_
        show Steps p.tables e below (T5.setTop (mkF m 99 #[.val (.int p1), .val (.int p2), .val (.int p3), .val (.int p4), .val (.int x0), .val (.int x1), .val (.int x2), .val (.ref b1), .val (.ref b5), .val (.int (0 : Int32)), .val (.int (0 : Int32)), .val (.ref b1), .unset, .unset, .unset, .unset, .unset, .unset] [])) _
        refine XS.aload X5.here hx rfl (hb hby at_99) rfl rfl ?_
        show Steps p.tables e below (T5.setTop (mkF m 101 #[.val (.int p1), .val (.int p2), .val (.int p3), .val (.int p4), .val (.int x0), .val (.int x1), .val (.int x2), .val (.ref b1), .val (.ref b5), .val (.int (0 : Int32)), .val (.int (0 : Int32)), .val (.ref b1), .unset, .unset, .unset, .unset, .unset, .unset] [(.ref b5)])) _
        refine XS.astore X5.here hx rfl (hb hby at_101) rfl rfl (l' := #[.val (.int p1), .val (.int p2), .val (.int p3), .val (.int p4), .val (.int x0), .val (.int x1), .val (.int x2), .val (.ref b1), .val (.ref b5), .val (.int (0 : Int32)), .val (.int (0 : Int32)), .val (.ref b1), .val (.ref b5), .unset, .unset, .unset, .unset, .unset]) rfl ?_
        show Steps p.tables e below (T5.setTop (mkF m 103 #[.val (.int p1), .val (.int p2), .val (.int p3), .val (.int p4), .val (.int x0), .val (.int x1), .val (.int x2), .val (.ref b1), .val (.ref b5), .val (.int (0 : Int32)), .val (.int (0 : Int32)), .val (.ref b1), .val (.ref b5), .unset, .unset, .unset, .unset, .unset] [])) _
        exact k
      obtain ⟨T6, h6, X6, e6, E6, A6, D6, -, st6⟩ := newO X5 hx hZ hown (hw _ (List.mem_of_getElem? (i := 2) rfl)) (hw _ (List.mem_of_getElem? (i := 3) rfl)) (hw _ (List.mem_of_getElem? (i := 4) rfl)) e5 (g := (mkF m 103 #[.val (.int p1), .val (.int p2), .val (.int p3), .val (.int p4), .val (.int x0), .val (.int x1), .val (.int x2), .val (.ref b1), .val (.ref b5), .val (.int (0 : Int32)), .val (.int (0 : Int32)), .val (.ref b1), .val (.ref b5), .unset, .unset, .unset, .unset, .unset] [])) rfl (hb hby at_103) (by decide) (by decide)
      obtain ⟨b6, g6⟩ : ∃ z, z = h5.size := ⟨_, rfl⟩
      rw [← g6] at A6 D6 st6
      have lt_b1_b6 : b1 < b6 := Nat.lt_of_lt_of_le G1.lt (Nat.le_of_eq g6.symm)
      have lt_b5_b6 : b5 < b6 := Nat.lt_of_lt_of_le G5.lt (Nat.le_of_eq g6.symm)
      have g_b6 : n0 ≤ b6 := Nat.le_trans (own_oldsz O) (Nat.le_of_eq g6.symm)
      replace G1 := G1.ext E6
      replace V4 := V4.ext E6
      replace G5 := G5.ext E6
      replace V5 := V5.ext E6
      replace O := O.ext E6
      replace hk := Nat.le_trans hk E6.1
      have F6_unreadable : Fld Z h6 b6 "com/example/fixity/fixity/engine/AccountRequest" "unreadable" "Ljava/lang/String;" .null := D6 (Or.inr (hw _ (List.mem_of_getElem? (i := 12) rfl))) (ty := (.object "java/lang/String")) (by decide)
      have F6_password : Fld Z h6 b6 "com/example/fixity/fixity/engine/AccountRequest" "password" "[C" .null := D6 (Or.inl (hw _ (List.mem_of_getElem? (i := 33) rfl))) (ty := (.array .char)) (by decide)
      have F6_role : Fld Z h6 b6 "com/example/fixity/fixity/engine/AccountRequest" "role" "Ljava/lang/String;" .null := D6 (Or.inl (hw _ (List.mem_of_getElem? (i := 64) rfl))) (ty := (.object "java/lang/String")) (by decide)
      refine own_go (B := T6.setTop (mkF m 106 #[.val (.int p1), .val (.int p2), .val (.int p3), .val (.int p4), .val (.int x0), .val (.int x1), .val (.int x2), .val (.ref b1), .val (.ref b5), .val (.int (0 : Int32)), .val (.int (0 : Int32)), .val (.ref b1), .val (.ref b5), .unset, .unset, .unset, .unset, .unset] [(.ref b6)])) st6 ?_
      refine own_go (B := T6.setTop (mkF m 107 #[.val (.int p1), .val (.int p2), .val (.int p3), .val (.int p4), .val (.int x0), .val (.int x1), .val (.int x2), .val (.ref b1), .val (.ref b5), .val (.int (0 : Int32)), .val (.int (0 : Int32)), .val (.ref b1), .val (.ref b5), .unset, .unset, .unset, .unset, .unset] [(.ref b6), (.ref b6)])) (fun t k => ?_) ?_
      · show Steps p.tables e below (T6.setTop (mkF m 106 #[.val (.int p1), .val (.int p2), .val (.int p3), .val (.int p4), .val (.int x0), .val (.int x1), .val (.int x2), .val (.ref b1), .val (.ref b5), .val (.int (0 : Int32)), .val (.int (0 : Int32)), .val (.ref b1), .val (.ref b5), .unset, .unset, .unset, .unset, .unset] [(.ref b6)])) _
        refine XS.dup X6.here hx rfl (hb hby at_106) rfl rfl ?_
        show Steps p.tables e below (T6.setTop (mkF m 107 #[.val (.int p1), .val (.int p2), .val (.int p3), .val (.int p4), .val (.int x0), .val (.int x1), .val (.int x2), .val (.ref b1), .val (.ref b5), .val (.int (0 : Int32)), .val (.int (0 : Int32)), .val (.ref b1), .val (.ref b5), .unset, .unset, .unset, .unset, .unset] [(.ref b6), (.ref b6)])) _
        exact k
      -- pc 107: com/example/fixity/fixity/engine/AccountRequest.<init>
      obtain ⟨_, _, ⟨T7, L7, k7, n7⟩, -, X7, ⟨Lc7, hQ7, l7, y7, z7⟩, st7⟩ := X6.specialBack hx (y := (⟨"com/example/fixity/fixity/engine/AccountRequest", "<init>", "()V"⟩ : MethodName)) rfl hown (mvT hZ (hw _ (List.mem_of_getElem? (i := 5) rfl))) (mvT hZ (hw _ (List.mem_of_getElem? (i := 6) rfl))) (mvT hZ (hw _ (List.mem_of_getElem? (i := 7) rfl))) (by decide) (backOf (W := 1) (rmInit l Z a0 hw [] b6 h6 n0 O A6 F6_unreadable F6_role F6_password g_b6) hZ (hw _ (List.mem_of_getElem? (i := 7) rfl)) (hw _ (List.mem_of_getElem? (i := 4) rfl)) (by decide) (by decide)) (g := (mkF m 107 #[.val (.int p1), .val (.int p2), .val (.int p3), .val (.int p4), .val (.int x0), .val (.int x1), .val (.int x2), .val (.ref b1), .val (.ref b5), .val (.int (0 : Int32)), .val (.int (0 : Int32)), .val (.ref b1), .val (.ref b5), .unset, .unset, .unset, .unset, .unset] [(.ref b6), (.ref b6)])) rfl (by rw [hml]; rfl) (Steps.refl _) (a := b6) (argsL := []) (rest := [(.ref b6)]) (lenOf pd_3 rfl) rfl (by show 2 * 0 + _ ≤ _; exact Nat.le_of_eq rfl) (hb hby at_107) (fun _ hWm => ⟨rfl, e6, (by decide : 3 + 0 ≤ _), (by decide : 10 + 0 ≤ _)⟩)
      dsimp only [Pt.U, Pt.locs, Pt.cells, Pt.slots] at X7 l7 y7 z7 st7 hQ7
      subst l7 y7 z7
      obtain ⟨rfl, Nq7, Kq7, Gq7_0, Gq7_1, Gq7_2⟩ := hQ7
      replace N := Fr.app N Nq7
      replace G1 := G1.keep Kq7
      replace V4 := V4.keep Kq7 (ninS (Nat.ne_of_lt lt_b1_b6) nin0)
      replace G5 := G5.keep Kq7
      replace V5 := V5.keep Kq7 (ninS (Nat.ne_of_lt lt_b5_b6) nin0)
      replace A6 := A6.keep Kq7
      clear F6_unreadable
      clear F6_password
      clear F6_role
      replace O := O.keep Kq7 (allS g_b6 all0)
      replace hk := Nat.le_trans hk Kq7.1
      refine own_go (B := T7.setTop (mkF m 110 #[.val (.int p1), .val (.int p2), .val (.int p3), .val (.int p4), .val (.int x0), .val (.int x1), .val (.int x2), .val (.ref b1), .val (.ref b5), .val (.int (0 : Int32)), .val (.int (0 : Int32)), .val (.ref b1), .val (.ref b5), .unset, .unset, .unset, .unset, .unset] [(.ref b6)])) (fun t k => st7.trans k) ?_
      refine own_go (B := T7.setTop (mkF m 116 #[.val (.int p1), .val (.int p2), .val (.int p3), .val (.int p4), .val (.int x0), .val (.int x1), .val (.int x2), .val (.ref b1), .val (.ref b5), .val (.int (0 : Int32)), .val (.int (0 : Int32)), .val (.ref b1), .val (.ref b5), .val (.ref b6), .unset, .unset, .unset, .unset] [(.ref b1), (.ref b6)])) (fun t k => ?_) ?_
      · show Steps p.tables e below (T7.setTop (mkF m 110 #[.val (.int p1), .val (.int p2), .val (.int p3), .val (.int p4), .val (.int x0), .val (.int x1), .val (.int x2), .val (.ref b1), .val (.ref b5), .val (.int (0 : Int32)), .val (.int (0 : Int32)), .val (.ref b1), .val (.ref b5), .unset, .unset, .unset, .unset, .unset] [(.ref b6)])) _
        refine XS.astore X7.here hx rfl (hb hby at_110) rfl rfl (l' := #[.val (.int p1), .val (.int p2), .val (.int p3), .val (.int p4), .val (.int x0), .val (.int x1), .val (.int x2), .val (.ref b1), .val (.ref b5), .val (.int (0 : Int32)), .val (.int (0 : Int32)), .val (.ref b1), .val (.ref b5), .val (.ref b6), .unset, .unset, .unset, .unset]) rfl ?_
        show Steps p.tables e below (T7.setTop (mkF m 112 #[.val (.int p1), .val (.int p2), .val (.int p3), .val (.int p4), .val (.int x0), .val (.int x1), .val (.int x2), .val (.ref b1), .val (.ref b5), .val (.int (0 : Int32)), .val (.int (0 : Int32)), .val (.ref b1), .val (.ref b5), .val (.ref b6), .unset, .unset, .unset, .unset] [])) _
        refine XS.aload X7.here hx rfl (hb hby at_112) rfl rfl ?_
        show Steps p.tables e below (T7.setTop (mkF m 114 #[.val (.int p1), .val (.int p2), .val (.int p3), .val (.int p4), .val (.int x0), .val (.int x1), .val (.int x2), .val (.ref b1), .val (.ref b5), .val (.int (0 : Int32)), .val (.int (0 : Int32)), .val (.ref b1), .val (.ref b5), .val (.ref b6), .unset, .unset, .unset, .unset] [(.ref b6)])) _
        refine XS.aload X7.here hx rfl (hb hby at_114) rfl rfl ?_
        show Steps p.tables e below (T7.setTop (mkF m 116 #[.val (.int p1), .val (.int p2), .val (.int p3), .val (.int p4), .val (.int x0), .val (.int x1), .val (.int x2), .val (.ref b1), .val (.ref b5), .val (.int (0 : Int32)), .val (.int (0 : Int32)), .val (.ref b1), .val (.ref b5), .val (.ref b6), .unset, .unset, .unset, .unset] [(.ref b1), (.ref b6)])) _
        exact k
      -- pc 116: com/example/fixity/fixity/engine/AccountRequest.password
      obtain ⟨cq8, kq8, q8a, q8b, q8c⟩ := isOf hZ rfl A6
      obtain ⟨_, _, ⟨T8, L8, k8, n8⟩, -, X8, hSq8, hgq8, ⟨Lc8, hQ8, l8, y8, z8⟩, st8⟩ := X7.virtualBackS hx (y := (⟨"com/example/fixity/fixity/engine/AccountRequest", "password", "([C)Lcom/example/fixity/fixity/engine/AccountRequest;"⟩ : MethodName)) (z := (⟨"com/example/fixity/fixity/engine/AccountRequest", "password", "([C)Lcom/example/fixity/fixity/engine/AccountRequest;"⟩ : MethodName)) hown (mvT hZ (hw _ (List.mem_of_getElem? (i := 13) rfl))) (mvT hZ (hw _ (List.mem_of_getElem? (i := 14) rfl))) (notFace_of_selects (args := #[]) (mvT hZ (hw _ (List.mem_of_getElem? (i := 16) rfl)))) (mvT hZ (hw _ (List.mem_of_getElem? (i := 16) rfl))) (mvT hZ (hw _ (List.mem_of_getElem? (i := 15) rfl))) (by decide) (backOfS (W := 0) (rmSetpassword l Z a0 hw [] b6 b1 (.null) T7.heap n0 O A6 Gq7_2 Gq7_0 Gq7_1 G1 g_b6) hZ (hw _ (List.mem_of_getElem? (i := 17) rfl)) (hw _ (List.mem_of_getElem? (i := 4) rfl)) (by decide) (by decide)) q8a q8c (g := (mkF m 116 #[.val (.int p1), .val (.int p2), .val (.int p3), .val (.int p4), .val (.int x0), .val (.int x1), .val (.int x2), .val (.ref b1), .val (.ref b5), .val (.int (0 : Int32)), .val (.int (0 : Int32)), .val (.ref b1), .val (.ref b5), .val (.ref b6), .unset, .unset, .unset, .unset] [(.ref b1), (.ref b6)])) rfl (by rw [hml]; rfl) (Steps.refl _) (argsL := [(.ref b1)]) (rest := []) (lenOf pd_4 rfl) rfl (by show 2 * 0 + _ ≤ _; exact Nat.le_of_eq rfl) (hb hby at_116) (fun _ hWm => ⟨rfl, rfl, (by decide : 3 + 2 ≤ _), (by decide : 10 + 36 ≤ _)⟩)
      dsimp only [Pt.U, Pt.locs, Pt.cells, Pt.slots] at X8 l8 y8 z8 st8 hQ8 hSq8 hgq8
      subst l8 y8 z8
      obtain ⟨X8, hS, hZ, hown⟩ := rebS hS hk X8 hSq8 hgq8 hZ hown
      obtain ⟨rfl, Nq8, Kq8, Gq8_0, Gq8_1, Gq8_2⟩ := hQ8
      replace N := Fr.app N Nq8
      replace G1 := G1.keep Kq8
      replace V4 := V4.keep Kq8 (ninS (Nat.ne_of_lt lt_b1_b6) nin0)
      replace G5 := G5.keep Kq8
      replace V5 := V5.keep Kq8 (ninS (Nat.ne_of_lt lt_b5_b6) nin0)
      replace A6 := A6.keep Kq8
      clear Gq7_0
      clear Gq7_1
      clear Gq7_2
      replace O := O.keep Kq8 (allS g_b6 all0)
      have hk : T8.heap.size ≤ T8.heap.size := Nat.le_refl _
      refine own_go (B := T8.setTop (mkF m 119 #[.val (.int p1), .val (.int p2), .val (.int p3), .val (.int p4), .val (.int x0), .val (.int x1), .val (.int x2), .val (.ref b1), .val (.ref b5), .val (.int (0 : Int32)), .val (.int (0 : Int32)), .val (.ref b1), .val (.ref b5), .val (.ref b6), .unset, .unset, .unset, .unset] [(.ref b6)])) (fun t k => st8.trans k) ?_
      refine own_go (B := T8.setTop (mkF m 178 #[.val (.int p1), .val (.int p2), .val (.int p3), .val (.int p4), .val (.int x0), .val (.int x1), .val (.int x2), .val (.ref b1), .val (.ref b5), .val (.int (0 : Int32)), .val (.int (0 : Int32)), .val (.ref b1), .val (.ref b5), .val (.ref b6), .val (.ref b6), .val (.int (1 : Int32)), .val (.ref b1), .unset] [(.ref b6)])) (fun t k => ?_) ?_
      · show Steps p.tables e below (T8.setTop (mkF m 119 #[.val (.int p1), .val (.int p2), .val (.int p3), .val (.int p4), .val (.int x0), .val (.int x1), .val (.int x2), .val (.ref b1), .val (.ref b5), .val (.int (0 : Int32)), .val (.int (0 : Int32)), .val (.ref b1), .val (.ref b5), .val (.ref b6), .unset, .unset, .unset, .unset] [(.ref b6)])) _
        refine XS.astore X8.here hx rfl (hb hby at_119) rfl rfl (l' := #[.val (.int p1), .val (.int p2), .val (.int p3), .val (.int p4), .val (.int x0), .val (.int x1), .val (.int x2), .val (.ref b1), .val (.ref b5), .val (.int (0 : Int32)), .val (.int (0 : Int32)), .val (.ref b1), .val (.ref b5), .val (.ref b6), .val (.ref b6), .unset, .unset, .unset]) rfl ?_
        show Steps p.tables e below (T8.setTop (mkF m 121 #[.val (.int p1), .val (.int p2), .val (.int p3), .val (.int p4), .val (.int x0), .val (.int x1), .val (.int x2), .val (.ref b1), .val (.ref b5), .val (.int (0 : Int32)), .val (.int (0 : Int32)), .val (.ref b1), .val (.ref b5), .val (.ref b6), .val (.ref b6), .unset, .unset, .unset] [])) _
        refine XS.aload X8.here hx rfl (hb hby at_121) rfl rfl ?_
        show Steps p.tables e below (T8.setTop (mkF m 123 #[.val (.int p1), .val (.int p2), .val (.int p3), .val (.int p4), .val (.int x0), .val (.int x1), .val (.int x2), .val (.ref b1), .val (.ref b5), .val (.int (0 : Int32)), .val (.int (0 : Int32)), .val (.ref b1), .val (.ref b5), .val (.ref b6), .val (.ref b6), .unset, .unset, .unset] [(.ref b6)])) _
        refine XS.aload X8.here hx rfl (hb hby at_123) rfl rfl ?_
        show Steps p.tables e below (T8.setTop (mkF m 125 #[.val (.int p1), .val (.int p2), .val (.int p3), .val (.int p4), .val (.int x0), .val (.int x1), .val (.int x2), .val (.ref b1), .val (.ref b5), .val (.int (0 : Int32)), .val (.int (0 : Int32)), .val (.ref b1), .val (.ref b5), .val (.ref b6), .val (.ref b6), .unset, .unset, .unset] [(.ref b6), (.ref b6)])) _
        refine Jvm.RoadKit.acmp (g := (mkF m 125 #[.val (.int p1), .val (.int p2), .val (.int p3), .val (.int p4), .val (.int x0), .val (.int x1), .val (.int x2), .val (.ref b1), .val (.ref b5), .val (.int (0 : Int32)), .val (.int (0 : Int32)), .val (.ref b1), .val (.ref b5), .val (.ref b6), .val (.ref b6), .unset, .unset, .unset] [(.ref b6), (.ref b6)])) X8 hx rfl rfl rfl (pc0 := 125) (pc' := 128) (same := true) rfl (hb hby at_125) rfl (decide_eq_true (congrArg Value.ref rfl)) (by decide) (by decide) ?_
        show Steps p.tables e below (T8.setTop (mkF m 128 #[.val (.int p1), .val (.int p2), .val (.int p3), .val (.int p4), .val (.int x0), .val (.int x1), .val (.int x2), .val (.ref b1), .val (.ref b5), .val (.int (0 : Int32)), .val (.int (0 : Int32)), .val (.ref b1), .val (.ref b5), .val (.ref b6), .val (.ref b6), .unset, .unset, .unset] [])) _
        refine XS.iconst X8.here hx rfl (hb hby at_128) ?_
        show Steps p.tables e below (T8.setTop (mkF m 129 #[.val (.int p1), .val (.int p2), .val (.int p3), .val (.int p4), .val (.int x0), .val (.int x1), .val (.int x2), .val (.ref b1), .val (.ref b5), .val (.int (0 : Int32)), .val (.int (0 : Int32)), .val (.ref b1), .val (.ref b5), .val (.ref b6), .val (.ref b6), .unset, .unset, .unset] [(.int (1 : Int32))])) _
        refine XS.goto X8.here hx rfl (pc0 := 129) (pc' := 133) rfl (hb hby at_129) (by decide) (by decide) ?_
        show Steps p.tables e below (T8.setTop (mkF m 133 #[.val (.int p1), .val (.int p2), .val (.int p3), .val (.int p4), .val (.int x0), .val (.int x1), .val (.int x2), .val (.ref b1), .val (.ref b5), .val (.int (0 : Int32)), .val (.int (0 : Int32)), .val (.ref b1), .val (.ref b5), .val (.ref b6), .val (.ref b6), .unset, .unset, .unset] [(.int (1 : Int32))])) _
        refine XS.istore X8.here hx rfl (hb hby at_133) rfl (l' := #[.val (.int p1), .val (.int p2), .val (.int p3), .val (.int p4), .val (.int x0), .val (.int x1), .val (.int x2), .val (.ref b1), .val (.ref b5), .val (.int (0 : Int32)), .val (.int (0 : Int32)), .val (.ref b1), .val (.ref b5), .val (.ref b6), .val (.ref b6), .val (.int (1 : Int32)), .unset, .unset]) rfl ?_
        show Steps p.tables e below (T8.setTop (mkF m 135 #[.val (.int p1), .val (.int p2), .val (.int p3), .val (.int p4), .val (.int x0), .val (.int x1), .val (.int x2), .val (.ref b1), .val (.ref b5), .val (.int (0 : Int32)), .val (.int (0 : Int32)), .val (.ref b1), .val (.ref b5), .val (.ref b6), .val (.ref b6), .val (.int (1 : Int32)), .unset, .unset] [])) _
        refine XS.aload X8.here hx rfl (hb hby at_135) rfl rfl ?_
        show Steps p.tables e below (T8.setTop (mkF m 137 #[.val (.int p1), .val (.int p2), .val (.int p3), .val (.int p4), .val (.int x0), .val (.int x1), .val (.int x2), .val (.ref b1), .val (.ref b5), .val (.int (0 : Int32)), .val (.int (0 : Int32)), .val (.ref b1), .val (.ref b5), .val (.ref b6), .val (.ref b6), .val (.int (1 : Int32)), .unset, .unset] [(.ref b1)])) _
        refine XS.astore X8.here hx rfl (hb hby at_137) rfl rfl (l' := #[.val (.int p1), .val (.int p2), .val (.int p3), .val (.int p4), .val (.int x0), .val (.int x1), .val (.int x2), .val (.ref b1), .val (.ref b5), .val (.int (0 : Int32)), .val (.int (0 : Int32)), .val (.ref b1), .val (.ref b5), .val (.ref b6), .val (.ref b6), .val (.int (1 : Int32)), .val (.ref b1), .unset]) rfl ?_
        show Steps p.tables e below (T8.setTop (mkF m 139 #[.val (.int p1), .val (.int p2), .val (.int p3), .val (.int p4), .val (.int x0), .val (.int x1), .val (.int x2), .val (.ref b1), .val (.ref b5), .val (.int (0 : Int32)), .val (.int (0 : Int32)), .val (.ref b1), .val (.ref b5), .val (.ref b6), .val (.ref b6), .val (.int (1 : Int32)), .val (.ref b1), .unset] [])) _
        refine XS.iload X8.here hx rfl (hb hby at_139) rfl ?_
        show Steps p.tables e below (T8.setTop (mkF m 141 #[.val (.int p1), .val (.int p2), .val (.int p3), .val (.int p4), .val (.int x0), .val (.int x1), .val (.int x2), .val (.ref b1), .val (.ref b5), .val (.int (0 : Int32)), .val (.int (0 : Int32)), .val (.ref b1), .val (.ref b5), .val (.ref b6), .val (.ref b6), .val (.int (1 : Int32)), .val (.ref b1), .unset] [(.int (0 : Int32))])) _
        refine XS.ifYes X8.here hx rfl (pc0 := 141) (pc' := 176) rfl (hb hby at_141) rfl ((if0 _ _).trans (teq (by decide)).1) (by decide) (by decide) ?_
        show Steps p.tables e below (T8.setTop (mkF m 176 #[.val (.int p1), .val (.int p2), .val (.int p3), .val (.int p4), .val (.int x0), .val (.int x1), .val (.int x2), .val (.ref b1), .val (.ref b5), .val (.int (0 : Int32)), .val (.int (0 : Int32)), .val (.ref b1), .val (.ref b5), .val (.ref b6), .val (.ref b6), .val (.int (1 : Int32)), .val (.ref b1), .unset] [])) _
        refine XS.aload X8.here hx rfl (hb hby at_176) rfl rfl ?_
        show Steps p.tables e below (T8.setTop (mkF m 178 #[.val (.int p1), .val (.int p2), .val (.int p3), .val (.int p4), .val (.int x0), .val (.int x1), .val (.int x2), .val (.ref b1), .val (.ref b5), .val (.int (0 : Int32)), .val (.int (0 : Int32)), .val (.ref b1), .val (.ref b5), .val (.ref b6), .val (.ref b6), .val (.int (1 : Int32)), .val (.ref b1), .unset] [(.ref b6)])) _
        exact k
      -- pc 178: com/example/fixity/fixity/engine/AccountRequest.password
      obtain ⟨cq9, kq9, q9a, q9b, q9c⟩ := isOf hZ rfl A6
      obtain ⟨_, _, ⟨T9, L9, k9, n9⟩, -, X9, ⟨Lc9, hQ9, l9, y9, z9⟩, st9⟩ := X8.virtualBack hx (y := (⟨"com/example/fixity/fixity/engine/AccountRequest", "password", "()Ljava/util/Optional;"⟩ : MethodName)) (z := (⟨"com/example/fixity/fixity/engine/AccountRequest", "password", "()Ljava/util/Optional;"⟩ : MethodName)) hown (mvT hZ (hw _ (List.mem_of_getElem? (i := 34) rfl))) (mvT hZ (hw _ (List.mem_of_getElem? (i := 35) rfl))) (notFace_of_selects (args := #[]) (mvT hZ (hw _ (List.mem_of_getElem? (i := 37) rfl)))) (mvT hZ (hw _ (List.mem_of_getElem? (i := 37) rfl))) (mvT hZ (hw _ (List.mem_of_getElem? (i := 36) rfl))) (by decide) (backOf (W := 0) (rmG1password l Z a0 hw [] b6 b1 T8.heap n0 O Gq8_0) hZ (hw _ (List.mem_of_getElem? (i := 38) rfl)) (hw _ (List.mem_of_getElem? (i := 4) rfl)) (by decide) (by decide)) q9a q9c (g := (mkF m 178 #[.val (.int p1), .val (.int p2), .val (.int p3), .val (.int p4), .val (.int x0), .val (.int x1), .val (.int x2), .val (.ref b1), .val (.ref b5), .val (.int (0 : Int32)), .val (.int (0 : Int32)), .val (.ref b1), .val (.ref b5), .val (.ref b6), .val (.ref b6), .val (.int (1 : Int32)), .val (.ref b1), .unset] [(.ref b6)])) rfl (by rw [hml]; rfl) (Steps.refl _) (argsL := []) (rest := []) (lenOf pd_5 rfl) rfl (by show 2 * 0 + _ ≤ _; exact Nat.le_of_eq rfl) (hb hby at_178) (fun _ hWm => ⟨rfl, rfl, (by decide : 5 + 1 ≤ _), (by decide : 46 + 1 ≤ _)⟩)
      dsimp only [Pt.U, Pt.locs, Pt.cells, Pt.slots] at X9 l9 y9 z9 st9 hQ9
      subst l9 y9 z9
      obtain ⟨r9, rfl, Nq9, Kq9, fq9_r, Gq9_0, Gq9_1⟩ := hQ9
      replace N := Fr.app N Nq9
      have lt_b1_r9 : b1 < r9 := Nat.lt_of_lt_of_le G1.lt fq9_r
      have lt_b5_r9 : b5 < r9 := Nat.lt_of_lt_of_le G5.lt fq9_r
      have lt_b6_r9 : b6 < r9 := Nat.lt_of_lt_of_le A6.lt fq9_r
      have g_r9 : n0 ≤ r9 := Nat.le_trans (own_oldsz O) fq9_r
      replace G1 := G1.keep Kq9
      replace V4 := V4.keep Kq9 nin0
      replace G5 := G5.keep Kq9
      replace V5 := V5.keep Kq9 nin0
      replace A6 := A6.keep Kq9
      replace Gq8_0 := Gq8_0.keep Kq9 nin0
      replace Gq8_1 := Gq8_1.keep Kq9 nin0
      replace Gq8_2 := Gq8_2.keep Kq9 nin0
      replace O := O.keep Kq9 all0
      replace hk := Nat.le_trans hk Kq9.1
      refine own_go (B := T9.setTop (mkF m 181 #[.val (.int p1), .val (.int p2), .val (.int p3), .val (.int p4), .val (.int x0), .val (.int x1), .val (.int x2), .val (.ref b1), .val (.ref b5), .val (.int (0 : Int32)), .val (.int (0 : Int32)), .val (.ref b1), .val (.ref b5), .val (.ref b6), .val (.ref b6), .val (.int (1 : Int32)), .val (.ref b1), .unset] [(.ref r9)])) (fun t k => st9.trans k) ?_
      refine own_go (B := T9.setTop (mkF m 182 #[.val (.int p1), .val (.int p2), .val (.int p3), .val (.int p4), .val (.int x0), .val (.int x1), .val (.int x2), .val (.ref b1), .val (.ref b5), .val (.int (0 : Int32)), .val (.int (0 : Int32)), .val (.ref b1), .val (.ref b5), .val (.ref b6), .val (.ref b6), .val (.int (1 : Int32)), .val (.ref b1), .unset] [.null, (.ref r9)])) (fun t k => ?_) ?_
      · show Steps p.tables e below (T9.setTop (mkF m 181 #[.val (.int p1), .val (.int p2), .val (.int p3), .val (.int p4), .val (.int x0), .val (.int x1), .val (.int x2), .val (.ref b1), .val (.ref b5), .val (.int (0 : Int32)), .val (.int (0 : Int32)), .val (.ref b1), .val (.ref b5), .val (.ref b6), .val (.ref b6), .val (.int (1 : Int32)), .val (.ref b1), .unset] [(.ref r9)])) _
        refine XS.aconstNull X9.here hx rfl (hb hby at_181) ?_
        show Steps p.tables e below (T9.setTop (mkF m 182 #[.val (.int p1), .val (.int p2), .val (.int p3), .val (.int p4), .val (.int x0), .val (.int x1), .val (.int x2), .val (.ref b1), .val (.ref b5), .val (.int (0 : Int32)), .val (.int (0 : Int32)), .val (.ref b1), .val (.ref b5), .val (.ref b6), .val (.ref b6), .val (.int (1 : Int32)), .val (.ref b1), .unset] [.null, (.ref r9)])) _
        exact k
      -- pc 182: java/util/Optional.orElse
      obtain ⟨cq10, kq10, q10a, q10b, q10c⟩ := isOf hZ rfl Gq9_0
      obtain ⟨_, _, ⟨T10, L10, k10, n10⟩, -, X10, ⟨Lc10, hQ10, l10, y10, z10⟩, st10⟩ := X9.virtualBack hx (y := (⟨"java/util/Optional", "orElse", "(Ljava/lang/Object;)Ljava/lang/Object;"⟩ : MethodName)) (z := (⟨"java/util/Optional", "orElse", "(Ljava/lang/Object;)Ljava/lang/Object;"⟩ : MethodName)) hown (mvT hZ (hw _ (List.mem_of_getElem? (i := 52) rfl))) (mvT hZ (hw _ (List.mem_of_getElem? (i := 53) rfl))) (notFace_of_selects (args := #[]) (mvT hZ (hw _ (List.mem_of_getElem? (i := 55) rfl)))) (mvT hZ (hw _ (List.mem_of_getElem? (i := 55) rfl))) (mvT hZ (hw _ (List.mem_of_getElem? (i := 54) rfl))) (by decide) (backOf (W := 0) (rmOE1 l Z a0 hw [] r9 b1 T9.heap n0 O Gq9_1) hZ (hw _ (List.mem_of_getElem? (i := 56) rfl)) (hw _ (List.mem_of_getElem? (i := 41) rfl)) (by decide) (by decide)) q10a q10c (g := (mkF m 182 #[.val (.int p1), .val (.int p2), .val (.int p3), .val (.int p4), .val (.int x0), .val (.int x1), .val (.int x2), .val (.ref b1), .val (.ref b5), .val (.int (0 : Int32)), .val (.int (0 : Int32)), .val (.ref b1), .val (.ref b5), .val (.ref b6), .val (.ref b6), .val (.int (1 : Int32)), .val (.ref b1), .unset] [.null, (.ref r9)])) rfl (by rw [hml]; rfl) (Steps.refl _) (argsL := [.null]) (rest := []) (lenOf pd_6 rfl) rfl (by show 2 * 0 + _ ≤ _; exact Nat.le_of_eq rfl) (hb hby at_182) (fun _ hWm => ⟨rfl, rfl, (by decide : 6 + 0 ≤ _), (by decide : 47 + 0 ≤ _)⟩)
      dsimp only [Pt.U, Pt.locs, Pt.cells, Pt.slots] at X10 l10 y10 z10 st10 hQ10
      subst l10 y10 z10
      obtain ⟨rfl, Nq10, Kq10⟩ := hQ10
      replace N := Fr.app N Nq10
      refine own_go (B := T10.setTop (mkF m 185 #[.val (.int p1), .val (.int p2), .val (.int p3), .val (.int p4), .val (.int x0), .val (.int x1), .val (.int x2), .val (.ref b1), .val (.ref b5), .val (.int (0 : Int32)), .val (.int (0 : Int32)), .val (.ref b1), .val (.ref b5), .val (.ref b6), .val (.ref b6), .val (.int (1 : Int32)), .val (.ref b1), .unset] [(.ref b1)])) (fun t k => st10.trans k) ?_
      obtain ⟨T11, X11, e11, st11⟩ := castY X10 hx hZ hown (hw _ (List.mem_of_getElem? (i := 57) rfl)) Kq10 (Ins.self G1) (g := (mkF m 185 #[.val (.int p1), .val (.int p2), .val (.int p3), .val (.int p4), .val (.int x0), .val (.int x1), .val (.int x2), .val (.ref b1), .val (.ref b5), .val (.int (0 : Int32)), .val (.int (0 : Int32)), .val (.ref b1), .val (.ref b5), .val (.ref b6), .val (.ref b6), .val (.int (1 : Int32)), .val (.ref b1), .unset] [(.ref b1)])) rfl rfl (hb hby at_185)
      refine own_go (B := T11.setTop (mkF m 188 #[.val (.int p1), .val (.int p2), .val (.int p3), .val (.int p4), .val (.int x0), .val (.int x1), .val (.int x2), .val (.ref b1), .val (.ref b5), .val (.int (0 : Int32)), .val (.int (0 : Int32)), .val (.ref b1), .val (.ref b5), .val (.ref b6), .val (.ref b6), .val (.int (1 : Int32)), .val (.ref b1), .unset] [(.ref b1)])) st11 ?_
      refine own_go (B := T11.setTop (mkF m 216 #[.val (.int p1), .val (.int p2), .val (.int p3), .val (.int p4), .val (.int x0), .val (.int x1), .val (.int x2), .val (.ref b1), .val (.ref b5), .val (.int (0 : Int32)), .val (.int (0 : Int32)), .val (.ref b1), .val (.ref b5), .val (.ref b6), .val (.ref b6), .val (.int (1 : Int32)), .val (.ref b1), .val (.ref b1)] [(.ref b1)])) (fun t k => ?_) ?_
      · show Steps p.tables e below (T11.setTop (mkF m 188 #[.val (.int p1), .val (.int p2), .val (.int p3), .val (.int p4), .val (.int x0), .val (.int x1), .val (.int x2), .val (.ref b1), .val (.ref b5), .val (.int (0 : Int32)), .val (.int (0 : Int32)), .val (.ref b1), .val (.ref b5), .val (.ref b6), .val (.ref b6), .val (.int (1 : Int32)), .val (.ref b1), .unset] [(.ref b1)])) _
        refine XS.astore X11.here hx rfl (hb hby at_188) rfl rfl (l' := #[.val (.int p1), .val (.int p2), .val (.int p3), .val (.int p4), .val (.int x0), .val (.int x1), .val (.int x2), .val (.ref b1), .val (.ref b5), .val (.int (0 : Int32)), .val (.int (0 : Int32)), .val (.ref b1), .val (.ref b5), .val (.ref b6), .val (.ref b6), .val (.int (1 : Int32)), .val (.ref b1), .val (.ref b1)]) rfl ?_
        show Steps p.tables e below (T11.setTop (mkF m 190 #[.val (.int p1), .val (.int p2), .val (.int p3), .val (.int p4), .val (.int x0), .val (.int x1), .val (.int x2), .val (.ref b1), .val (.ref b5), .val (.int (0 : Int32)), .val (.int (0 : Int32)), .val (.ref b1), .val (.ref b5), .val (.ref b6), .val (.ref b6), .val (.int (1 : Int32)), .val (.ref b1), .val (.ref b1)] [])) _
        refine XS.iload X11.here hx rfl (hb hby at_190) rfl ?_
        show Steps p.tables e below (T11.setTop (mkF m 192 #[.val (.int p1), .val (.int p2), .val (.int p3), .val (.int p4), .val (.int x0), .val (.int x1), .val (.int x2), .val (.ref b1), .val (.ref b5), .val (.int (0 : Int32)), .val (.int (0 : Int32)), .val (.ref b1), .val (.ref b5), .val (.ref b6), .val (.ref b6), .val (.int (1 : Int32)), .val (.ref b1), .val (.ref b1)] [(.int (1 : Int32))])) _
        refine XS.ifNo X11.here hx rfl (hb hby at_192) rfl ((if0 _ _).trans (feq (by decide)).1) ?_
        show Steps p.tables e below (T11.setTop (mkF m 195 #[.val (.int p1), .val (.int p2), .val (.int p3), .val (.int p4), .val (.int x0), .val (.int x1), .val (.int x2), .val (.ref b1), .val (.ref b5), .val (.int (0 : Int32)), .val (.int (0 : Int32)), .val (.ref b1), .val (.ref b5), .val (.ref b6), .val (.ref b6), .val (.int (1 : Int32)), .val (.ref b1), .val (.ref b1)] [])) _
        refine XS.aload X11.here hx rfl (hb hby at_195) rfl rfl ?_
        show Steps p.tables e below (T11.setTop (mkF m 197 #[.val (.int p1), .val (.int p2), .val (.int p3), .val (.int p4), .val (.int x0), .val (.int x1), .val (.int x2), .val (.ref b1), .val (.ref b5), .val (.int (0 : Int32)), .val (.int (0 : Int32)), .val (.ref b1), .val (.ref b5), .val (.ref b6), .val (.ref b6), .val (.int (1 : Int32)), .val (.ref b1), .val (.ref b1)] [(.ref b1)])) _
        refine XS.aload X11.here hx rfl (hb hby at_197) rfl rfl ?_
        show Steps p.tables e below (T11.setTop (mkF m 199 #[.val (.int p1), .val (.int p2), .val (.int p3), .val (.int p4), .val (.int x0), .val (.int x1), .val (.int x2), .val (.ref b1), .val (.ref b5), .val (.int (0 : Int32)), .val (.int (0 : Int32)), .val (.ref b1), .val (.ref b5), .val (.ref b6), .val (.ref b6), .val (.int (1 : Int32)), .val (.ref b1), .val (.ref b1)] [(.ref b1), (.ref b1)])) _
        refine Jvm.RoadKit.acmp (g := (mkF m 199 #[.val (.int p1), .val (.int p2), .val (.int p3), .val (.int p4), .val (.int x0), .val (.int x1), .val (.int x2), .val (.ref b1), .val (.ref b5), .val (.int (0 : Int32)), .val (.int (0 : Int32)), .val (.ref b1), .val (.ref b5), .val (.ref b6), .val (.ref b6), .val (.int (1 : Int32)), .val (.ref b1), .val (.ref b1)] [(.ref b1), (.ref b1)])) X11 hx rfl rfl rfl (pc0 := 199) (pc' := 202) (same := true) rfl (hb hby at_199) rfl (decide_eq_true (congrArg Value.ref rfl)) (by decide) (by decide) ?_
        show Steps p.tables e below (T11.setTop (mkF m 202 #[.val (.int p1), .val (.int p2), .val (.int p3), .val (.int p4), .val (.int x0), .val (.int x1), .val (.int x2), .val (.ref b1), .val (.ref b5), .val (.int (0 : Int32)), .val (.int (0 : Int32)), .val (.ref b1), .val (.ref b5), .val (.ref b6), .val (.ref b6), .val (.int (1 : Int32)), .val (.ref b1), .val (.ref b1)] [])) _
        refine XS.iconst X11.here hx rfl (hb hby at_202) ?_
        show Steps p.tables e below (T11.setTop (mkF m 203 #[.val (.int p1), .val (.int p2), .val (.int p3), .val (.int p4), .val (.int x0), .val (.int x1), .val (.int x2), .val (.ref b1), .val (.ref b5), .val (.int (0 : Int32)), .val (.int (0 : Int32)), .val (.ref b1), .val (.ref b5), .val (.ref b6), .val (.ref b6), .val (.int (1 : Int32)), .val (.ref b1), .val (.ref b1)] [(.int (1 : Int32))])) _
        refine XS.goto X11.here hx rfl (pc0 := 203) (pc' := 207) rfl (hb hby at_203) (by decide) (by decide) ?_
        show Steps p.tables e below (T11.setTop (mkF m 207 #[.val (.int p1), .val (.int p2), .val (.int p3), .val (.int p4), .val (.int x0), .val (.int x1), .val (.int x2), .val (.ref b1), .val (.ref b5), .val (.int (0 : Int32)), .val (.int (0 : Int32)), .val (.ref b1), .val (.ref b5), .val (.ref b6), .val (.ref b6), .val (.int (1 : Int32)), .val (.ref b1), .val (.ref b1)] [(.int (1 : Int32))])) _
        refine XS.istore X11.here hx rfl (hb hby at_207) rfl (l' := #[.val (.int p1), .val (.int p2), .val (.int p3), .val (.int p4), .val (.int x0), .val (.int x1), .val (.int x2), .val (.ref b1), .val (.ref b5), .val (.int (0 : Int32)), .val (.int (0 : Int32)), .val (.ref b1), .val (.ref b5), .val (.ref b6), .val (.ref b6), .val (.int (1 : Int32)), .val (.ref b1), .val (.ref b1)]) rfl ?_
        show Steps p.tables e below (T11.setTop (mkF m 209 #[.val (.int p1), .val (.int p2), .val (.int p3), .val (.int p4), .val (.int x0), .val (.int x1), .val (.int x2), .val (.ref b1), .val (.ref b5), .val (.int (0 : Int32)), .val (.int (0 : Int32)), .val (.ref b1), .val (.ref b5), .val (.ref b6), .val (.ref b6), .val (.int (1 : Int32)), .val (.ref b1), .val (.ref b1)] [])) _
        refine XS.iload X11.here hx rfl (hb hby at_209) rfl ?_
        show Steps p.tables e below (T11.setTop (mkF m 211 #[.val (.int p1), .val (.int p2), .val (.int p3), .val (.int p4), .val (.int x0), .val (.int x1), .val (.int x2), .val (.ref b1), .val (.ref b5), .val (.int (0 : Int32)), .val (.int (0 : Int32)), .val (.ref b1), .val (.ref b5), .val (.ref b6), .val (.ref b6), .val (.int (1 : Int32)), .val (.ref b1), .val (.ref b1)] [(.int (1 : Int32))])) _
        refine XS.ifNo X11.here hx rfl (hb hby at_211) rfl ((if0 _ _).trans (feq (by decide)).1) ?_
        show Steps p.tables e below (T11.setTop (mkF m 214 #[.val (.int p1), .val (.int p2), .val (.int p3), .val (.int p4), .val (.int x0), .val (.int x1), .val (.int x2), .val (.ref b1), .val (.ref b5), .val (.int (0 : Int32)), .val (.int (0 : Int32)), .val (.ref b1), .val (.ref b5), .val (.ref b6), .val (.ref b6), .val (.int (1 : Int32)), .val (.ref b1), .val (.ref b1)] [])) _
        refine XS.aload X11.here hx rfl (hb hby at_214) rfl rfl ?_
        show Steps p.tables e below (T11.setTop (mkF m 216 #[.val (.int p1), .val (.int p2), .val (.int p3), .val (.int p4), .val (.int x0), .val (.int x1), .val (.int x2), .val (.ref b1), .val (.ref b5), .val (.int (0 : Int32)), .val (.int (0 : Int32)), .val (.ref b1), .val (.ref b5), .val (.ref b6), .val (.ref b6), .val (.int (1 : Int32)), .val (.ref b1), .val (.ref b1)] [(.ref b1)])) _
        exact k
      have st12 : ∀ target, Steps p.tables e below (T11.setTop (mkF m 217 #[.val (.int p1), .val (.int p2), .val (.int p3), .val (.int p4), .val (.int x0), .val (.int x1), .val (.int x2), .val (.ref b1), .val (.ref b5), .val (.int (0 : Int32)), .val (.int (0 : Int32)), .val (.ref b1), .val (.ref b5), .val (.ref b6), .val (.ref b6), .val (.int (1 : Int32)), .val (.ref b1), .val (.ref b1)] [(.int (3 : Int32))])) target → Steps p.tables e below (T11.setTop (mkF m 216 #[.val (.int p1), .val (.int p2), .val (.int p3), .val (.int p4), .val (.int x0), .val (.int x1), .val (.int x2), .val (.ref b1), .val (.ref b5), .val (.int (0 : Int32)), .val (.int (0 : Int32)), .val (.ref b1), .val (.ref b5), .val (.ref b6), .val (.ref b6), .val (.int (1 : Int32)), .val (.ref b1), .val (.ref b1)] [(.ref b1)])) target := by
        obtain ⟨cl, Ar, q, Sz, Nn, Hs, Gt⟩ := V4
        intro target kt
        refine X11.arraylength hx (by rw [e11]; exact Ar.1) (State.isArrayOf_alike hZ.alike Ar.2.1) (g := (mkF m 216 #[.val (.int p1), .val (.int p2), .val (.int p3), .val (.int p4), .val (.int x0), .val (.int x1), .val (.int x2), .val (.ref b1), .val (.ref b5), .val (.int (0 : Int32)), .val (.int (0 : Int32)), .val (.ref b1), .val (.ref b5), .val (.ref b6), .val (.ref b6), .val (.int (1 : Int32)), .val (.ref b1), .val (.ref b1)] [(.ref b1)])) rfl rfl (hb hby at_216) _ ?_
        rw [len_of Sz Nn]
        exact kt
      refine own_go (B := T11.setTop (mkF m 217 #[.val (.int p1), .val (.int p2), .val (.int p3), .val (.int p4), .val (.int x0), .val (.int x1), .val (.int x2), .val (.ref b1), .val (.ref b5), .val (.int (0 : Int32)), .val (.int (0 : Int32)), .val (.ref b1), .val (.ref b5), .val (.ref b6), .val (.ref b6), .val (.int (1 : Int32)), .val (.ref b1), .val (.ref b1)] [(.int (3 : Int32))])) st12 ?_
      refine own_go (B := T11.setTop (mkF m 224 #[.val (.int p1), .val (.int p2), .val (.int p3), .val (.int p4), .val (.int x0), .val (.int x1), .val (.int x2), .val (.ref b1), .val (.ref b5), .val (.int (0 : Int32)), .val (.int (0 : Int32)), .val (.ref b1), .val (.ref b5), .val (.ref b6), .val (.ref b6), .val (.int (1 : Int32)), .val (.ref b1), .val (.ref b1)] [(.int (0 : Int32)), (.ref b1)])) (fun t k => ?_) ?_
      · show Steps p.tables e below (T11.setTop (mkF m 217 #[.val (.int p1), .val (.int p2), .val (.int p3), .val (.int p4), .val (.int x0), .val (.int x1), .val (.int x2), .val (.ref b1), .val (.ref b5), .val (.int (0 : Int32)), .val (.int (0 : Int32)), .val (.ref b1), .val (.ref b5), .val (.ref b6), .val (.ref b6), .val (.int (1 : Int32)), .val (.ref b1), .val (.ref b1)] [(.int (3 : Int32))])) _
        refine XS.iconst X11.here hx rfl (hb hby at_217) ?_
        show Steps p.tables e below (T11.setTop (mkF m 218 #[.val (.int p1), .val (.int p2), .val (.int p3), .val (.int p4), .val (.int x0), .val (.int x1), .val (.int x2), .val (.ref b1), .val (.ref b5), .val (.int (0 : Int32)), .val (.int (0 : Int32)), .val (.ref b1), .val (.ref b5), .val (.ref b6), .val (.ref b6), .val (.int (1 : Int32)), .val (.ref b1), .val (.ref b1)] [(.int (3 : Int32)), (.int (3 : Int32))])) _
        refine XS.icmpNo X11.here hx rfl (hb hby at_218) rfl (teq rfl).2 ?_
        show Steps p.tables e below (T11.setTop (mkF m 221 #[.val (.int p1), .val (.int p2), .val (.int p3), .val (.int p4), .val (.int x0), .val (.int x1), .val (.int x2), .val (.ref b1), .val (.ref b5), .val (.int (0 : Int32)), .val (.int (0 : Int32)), .val (.ref b1), .val (.ref b5), .val (.ref b6), .val (.ref b6), .val (.int (1 : Int32)), .val (.ref b1), .val (.ref b1)] [])) _
        refine XS.aload X11.here hx rfl (hb hby at_221) rfl rfl ?_
        show Steps p.tables e below (T11.setTop (mkF m 223 #[.val (.int p1), .val (.int p2), .val (.int p3), .val (.int p4), .val (.int x0), .val (.int x1), .val (.int x2), .val (.ref b1), .val (.ref b5), .val (.int (0 : Int32)), .val (.int (0 : Int32)), .val (.ref b1), .val (.ref b5), .val (.ref b6), .val (.ref b6), .val (.int (1 : Int32)), .val (.ref b1), .val (.ref b1)] [(.ref b1)])) _
        refine XS.iconst X11.here hx rfl (hb hby at_223) ?_
        show Steps p.tables e below (T11.setTop (mkF m 224 #[.val (.int p1), .val (.int p2), .val (.int p3), .val (.int p4), .val (.int x0), .val (.int x1), .val (.int x2), .val (.ref b1), .val (.ref b5), .val (.int (0 : Int32)), .val (.int (0 : Int32)), .val (.ref b1), .val (.ref b5), .val (.ref b6), .val (.ref b6), .val (.int (1 : Int32)), .val (.ref b1), .val (.ref b1)] [(.int (0 : Int32)), (.ref b1)])) _
        exact k
      obtain ⟨cl13, Ar13, q13, Sz13, Nn13, Hs13, Gt13⟩ := V4
      have hin13 : ¬ ((0 : Int32) < 0 ∨ cl13.slots.size ≤ ((0 : Int32)).toNatClampNeg) := inb_of Sz13 ⟨by decide, by decide⟩
      have hat13 : cl13.slots[((0 : Int32)).toNatClampNeg]? = some (.int x0) := Hs13.at hin13 rfl
      have st13 := X11.caload hx (j := (0 : Int32)) (v := (.int x0)) (by rw [e11]; exact Ar13.1) (State.isArrayOf_alike hZ.alike Ar13.2.1) Ar13.2.2 hin13 hat13 (g := (mkF m 224 #[.val (.int p1), .val (.int p2), .val (.int p3), .val (.int p4), .val (.int x0), .val (.int x1), .val (.int x2), .val (.ref b1), .val (.ref b5), .val (.int (0 : Int32)), .val (.int (0 : Int32)), .val (.ref b1), .val (.ref b5), .val (.ref b6), .val (.ref b6), .val (.int (1 : Int32)), .val (.ref b1), .val (.ref b1)] [(.int (0 : Int32)), (.ref b1)])) rfl rfl (hb hby at_224)
      have V13 : Arv Z T9.heap b1 k1 .char (3 : Int32) [(.int x0), (.int x1), (.int x2)] (.int (0 : Int32)) := ⟨cl13, Ar13, q13, Sz13, Nn13, Hs13, Gt13⟩
      refine own_go (B := T11.setTop (mkF m 225 #[.val (.int p1), .val (.int p2), .val (.int p3), .val (.int p4), .val (.int x0), .val (.int x1), .val (.int x2), .val (.ref b1), .val (.ref b5), .val (.int (0 : Int32)), .val (.int (0 : Int32)), .val (.ref b1), .val (.ref b5), .val (.ref b6), .val (.ref b6), .val (.int (1 : Int32)), .val (.ref b1), .val (.ref b1)] [(.int x0)])) st13 ?_
      refine own_go (B := T11.setTop (mkF m 233 #[.val (.int p1), .val (.int p2), .val (.int p3), .val (.int p4), .val (.int x0), .val (.int x1), .val (.int x2), .val (.ref b1), .val (.ref b5), .val (.int (0 : Int32)), .val (.int (0 : Int32)), .val (.ref b1), .val (.ref b5), .val (.ref b6), .val (.ref b6), .val (.int (1 : Int32)), .val (.ref b1), .val (.ref b1)] [(.int (1 : Int32)), (.ref b1)])) (fun t k => ?_) ?_
      · show Steps p.tables e below (T11.setTop (mkF m 225 #[.val (.int p1), .val (.int p2), .val (.int p3), .val (.int p4), .val (.int x0), .val (.int x1), .val (.int x2), .val (.ref b1), .val (.ref b5), .val (.int (0 : Int32)), .val (.int (0 : Int32)), .val (.ref b1), .val (.ref b5), .val (.ref b6), .val (.ref b6), .val (.int (1 : Int32)), .val (.ref b1), .val (.ref b1)] [(.int x0)])) _
        refine XS.iload X11.here hx rfl (hb hby at_225) rfl ?_
        show Steps p.tables e below (T11.setTop (mkF m 227 #[.val (.int p1), .val (.int p2), .val (.int p3), .val (.int p4), .val (.int x0), .val (.int x1), .val (.int x2), .val (.ref b1), .val (.ref b5), .val (.int (0 : Int32)), .val (.int (0 : Int32)), .val (.ref b1), .val (.ref b5), .val (.ref b6), .val (.ref b6), .val (.int (1 : Int32)), .val (.ref b1), .val (.ref b1)] [(.int x0), (.int x0)])) _
        refine XS.icmpNo X11.here hx rfl (hb hby at_227) rfl (teq rfl).2 ?_
        show Steps p.tables e below (T11.setTop (mkF m 230 #[.val (.int p1), .val (.int p2), .val (.int p3), .val (.int p4), .val (.int x0), .val (.int x1), .val (.int x2), .val (.ref b1), .val (.ref b5), .val (.int (0 : Int32)), .val (.int (0 : Int32)), .val (.ref b1), .val (.ref b5), .val (.ref b6), .val (.ref b6), .val (.int (1 : Int32)), .val (.ref b1), .val (.ref b1)] [])) _
        refine XS.aload X11.here hx rfl (hb hby at_230) rfl rfl ?_
        show Steps p.tables e below (T11.setTop (mkF m 232 #[.val (.int p1), .val (.int p2), .val (.int p3), .val (.int p4), .val (.int x0), .val (.int x1), .val (.int x2), .val (.ref b1), .val (.ref b5), .val (.int (0 : Int32)), .val (.int (0 : Int32)), .val (.ref b1), .val (.ref b5), .val (.ref b6), .val (.ref b6), .val (.int (1 : Int32)), .val (.ref b1), .val (.ref b1)] [(.ref b1)])) _
        refine XS.iconst X11.here hx rfl (hb hby at_232) ?_
        show Steps p.tables e below (T11.setTop (mkF m 233 #[.val (.int p1), .val (.int p2), .val (.int p3), .val (.int p4), .val (.int x0), .val (.int x1), .val (.int x2), .val (.ref b1), .val (.ref b5), .val (.int (0 : Int32)), .val (.int (0 : Int32)), .val (.ref b1), .val (.ref b5), .val (.ref b6), .val (.ref b6), .val (.int (1 : Int32)), .val (.ref b1), .val (.ref b1)] [(.int (1 : Int32)), (.ref b1)])) _
        exact k
      obtain ⟨cl14, Ar14, q14, Sz14, Nn14, Hs14, Gt14⟩ := V13
      have hin14 : ¬ ((1 : Int32) < 0 ∨ cl14.slots.size ≤ ((1 : Int32)).toNatClampNeg) := inb_of Sz14 ⟨by decide, by decide⟩
      have hat14 : cl14.slots[((1 : Int32)).toNatClampNeg]? = some (.int x1) := Hs14.at hin14 rfl
      have st14 := X11.caload hx (j := (1 : Int32)) (v := (.int x1)) (by rw [e11]; exact Ar14.1) (State.isArrayOf_alike hZ.alike Ar14.2.1) Ar14.2.2 hin14 hat14 (g := (mkF m 233 #[.val (.int p1), .val (.int p2), .val (.int p3), .val (.int p4), .val (.int x0), .val (.int x1), .val (.int x2), .val (.ref b1), .val (.ref b5), .val (.int (0 : Int32)), .val (.int (0 : Int32)), .val (.ref b1), .val (.ref b5), .val (.ref b6), .val (.ref b6), .val (.int (1 : Int32)), .val (.ref b1), .val (.ref b1)] [(.int (1 : Int32)), (.ref b1)])) rfl rfl (hb hby at_233)
      have V14 : Arv Z T9.heap b1 k1 .char (3 : Int32) [(.int x0), (.int x1), (.int x2)] (.int (0 : Int32)) := ⟨cl14, Ar14, q14, Sz14, Nn14, Hs14, Gt14⟩
      refine own_go (B := T11.setTop (mkF m 234 #[.val (.int p1), .val (.int p2), .val (.int p3), .val (.int p4), .val (.int x0), .val (.int x1), .val (.int x2), .val (.ref b1), .val (.ref b5), .val (.int (0 : Int32)), .val (.int (0 : Int32)), .val (.ref b1), .val (.ref b5), .val (.ref b6), .val (.ref b6), .val (.int (1 : Int32)), .val (.ref b1), .val (.ref b1)] [(.int x1)])) st14 ?_
      refine own_go (B := T11.setTop (mkF m 242 #[.val (.int p1), .val (.int p2), .val (.int p3), .val (.int p4), .val (.int x0), .val (.int x1), .val (.int x2), .val (.ref b1), .val (.ref b5), .val (.int (0 : Int32)), .val (.int (0 : Int32)), .val (.ref b1), .val (.ref b5), .val (.ref b6), .val (.ref b6), .val (.int (1 : Int32)), .val (.ref b1), .val (.ref b1)] [(.int (2 : Int32)), (.ref b1)])) (fun t k => ?_) ?_
      · show Steps p.tables e below (T11.setTop (mkF m 234 #[.val (.int p1), .val (.int p2), .val (.int p3), .val (.int p4), .val (.int x0), .val (.int x1), .val (.int x2), .val (.ref b1), .val (.ref b5), .val (.int (0 : Int32)), .val (.int (0 : Int32)), .val (.ref b1), .val (.ref b5), .val (.ref b6), .val (.ref b6), .val (.int (1 : Int32)), .val (.ref b1), .val (.ref b1)] [(.int x1)])) _
        refine XS.iload X11.here hx rfl (hb hby at_234) rfl ?_
        show Steps p.tables e below (T11.setTop (mkF m 236 #[.val (.int p1), .val (.int p2), .val (.int p3), .val (.int p4), .val (.int x0), .val (.int x1), .val (.int x2), .val (.ref b1), .val (.ref b5), .val (.int (0 : Int32)), .val (.int (0 : Int32)), .val (.ref b1), .val (.ref b5), .val (.ref b6), .val (.ref b6), .val (.int (1 : Int32)), .val (.ref b1), .val (.ref b1)] [(.int x1), (.int x1)])) _
        refine XS.icmpNo X11.here hx rfl (hb hby at_236) rfl (teq rfl).2 ?_
        show Steps p.tables e below (T11.setTop (mkF m 239 #[.val (.int p1), .val (.int p2), .val (.int p3), .val (.int p4), .val (.int x0), .val (.int x1), .val (.int x2), .val (.ref b1), .val (.ref b5), .val (.int (0 : Int32)), .val (.int (0 : Int32)), .val (.ref b1), .val (.ref b5), .val (.ref b6), .val (.ref b6), .val (.int (1 : Int32)), .val (.ref b1), .val (.ref b1)] [])) _
        refine XS.aload X11.here hx rfl (hb hby at_239) rfl rfl ?_
        show Steps p.tables e below (T11.setTop (mkF m 241 #[.val (.int p1), .val (.int p2), .val (.int p3), .val (.int p4), .val (.int x0), .val (.int x1), .val (.int x2), .val (.ref b1), .val (.ref b5), .val (.int (0 : Int32)), .val (.int (0 : Int32)), .val (.ref b1), .val (.ref b5), .val (.ref b6), .val (.ref b6), .val (.int (1 : Int32)), .val (.ref b1), .val (.ref b1)] [(.ref b1)])) _
        refine XS.iconst X11.here hx rfl (hb hby at_241) ?_
        show Steps p.tables e below (T11.setTop (mkF m 242 #[.val (.int p1), .val (.int p2), .val (.int p3), .val (.int p4), .val (.int x0), .val (.int x1), .val (.int x2), .val (.ref b1), .val (.ref b5), .val (.int (0 : Int32)), .val (.int (0 : Int32)), .val (.ref b1), .val (.ref b5), .val (.ref b6), .val (.ref b6), .val (.int (1 : Int32)), .val (.ref b1), .val (.ref b1)] [(.int (2 : Int32)), (.ref b1)])) _
        exact k
      obtain ⟨cl15, Ar15, q15, Sz15, Nn15, Hs15, Gt15⟩ := V14
      have hin15 : ¬ ((2 : Int32) < 0 ∨ cl15.slots.size ≤ ((2 : Int32)).toNatClampNeg) := inb_of Sz15 ⟨by decide, by decide⟩
      have hat15 : cl15.slots[((2 : Int32)).toNatClampNeg]? = some (.int x2) := Hs15.at hin15 rfl
      have st15 := X11.caload hx (j := (2 : Int32)) (v := (.int x2)) (by rw [e11]; exact Ar15.1) (State.isArrayOf_alike hZ.alike Ar15.2.1) Ar15.2.2 hin15 hat15 (g := (mkF m 242 #[.val (.int p1), .val (.int p2), .val (.int p3), .val (.int p4), .val (.int x0), .val (.int x1), .val (.int x2), .val (.ref b1), .val (.ref b5), .val (.int (0 : Int32)), .val (.int (0 : Int32)), .val (.ref b1), .val (.ref b5), .val (.ref b6), .val (.ref b6), .val (.int (1 : Int32)), .val (.ref b1), .val (.ref b1)] [(.int (2 : Int32)), (.ref b1)])) rfl rfl (hb hby at_242)
      have V15 : Arv Z T9.heap b1 k1 .char (3 : Int32) [(.int x0), (.int x1), (.int x2)] (.int (0 : Int32)) := ⟨cl15, Ar15, q15, Sz15, Nn15, Hs15, Gt15⟩
      refine own_go (B := T11.setTop (mkF m 243 #[.val (.int p1), .val (.int p2), .val (.int p3), .val (.int p4), .val (.int x0), .val (.int x1), .val (.int x2), .val (.ref b1), .val (.ref b5), .val (.int (0 : Int32)), .val (.int (0 : Int32)), .val (.ref b1), .val (.ref b5), .val (.ref b6), .val (.ref b6), .val (.int (1 : Int32)), .val (.ref b1), .val (.ref b1)] [(.int x2)])) st15 ?_
      refine own_go (B := T11.setTop (mkF m 262 #[.val (.int p1), .val (.int p2), .val (.int p3), .val (.int p4), .val (.int x0), .val (.int x1), .val (.int x2), .val (.ref b1), .val (.ref b5), .val (.int (0 : Int32)), .val (.int (0 : Int32)), .val (.ref b1), .val (.ref b5), .val (.ref b6), .val (.ref b6), .val (.int (1 : Int32)), .val (.ref b1), .val (.ref b1)] [(.ref b5)])) (fun t k => ?_) ?_
      · show Steps p.tables e below (T11.setTop (mkF m 243 #[.val (.int p1), .val (.int p2), .val (.int p3), .val (.int p4), .val (.int x0), .val (.int x1), .val (.int x2), .val (.ref b1), .val (.ref b5), .val (.int (0 : Int32)), .val (.int (0 : Int32)), .val (.ref b1), .val (.ref b5), .val (.ref b6), .val (.ref b6), .val (.int (1 : Int32)), .val (.ref b1), .val (.ref b1)] [(.int x2)])) _
        refine XS.iload X11.here hx rfl (hb hby at_243) rfl ?_
        show Steps p.tables e below (T11.setTop (mkF m 245 #[.val (.int p1), .val (.int p2), .val (.int p3), .val (.int p4), .val (.int x0), .val (.int x1), .val (.int x2), .val (.ref b1), .val (.ref b5), .val (.int (0 : Int32)), .val (.int (0 : Int32)), .val (.ref b1), .val (.ref b5), .val (.ref b6), .val (.ref b6), .val (.int (1 : Int32)), .val (.ref b1), .val (.ref b1)] [(.int x2), (.int x2)])) _
        refine XS.icmpNo X11.here hx rfl (hb hby at_245) rfl (teq rfl).2 ?_
        show Steps p.tables e below (T11.setTop (mkF m 248 #[.val (.int p1), .val (.int p2), .val (.int p3), .val (.int p4), .val (.int x0), .val (.int x1), .val (.int x2), .val (.ref b1), .val (.ref b5), .val (.int (0 : Int32)), .val (.int (0 : Int32)), .val (.ref b1), .val (.ref b5), .val (.ref b6), .val (.ref b6), .val (.int (1 : Int32)), .val (.ref b1), .val (.ref b1)] [])) _
        refine XS.iconst X11.here hx rfl (hb hby at_248) ?_
        show Steps p.tables e below (T11.setTop (mkF m 249 #[.val (.int p1), .val (.int p2), .val (.int p3), .val (.int p4), .val (.int x0), .val (.int x1), .val (.int x2), .val (.ref b1), .val (.ref b5), .val (.int (0 : Int32)), .val (.int (0 : Int32)), .val (.ref b1), .val (.ref b5), .val (.ref b6), .val (.ref b6), .val (.int (1 : Int32)), .val (.ref b1), .val (.ref b1)] [(.int (1 : Int32))])) _
        refine XS.goto X11.here hx rfl (pc0 := 249) (pc' := 253) rfl (hb hby at_249) (by decide) (by decide) ?_
        show Steps p.tables e below (T11.setTop (mkF m 253 #[.val (.int p1), .val (.int p2), .val (.int p3), .val (.int p4), .val (.int x0), .val (.int x1), .val (.int x2), .val (.ref b1), .val (.ref b5), .val (.int (0 : Int32)), .val (.int (0 : Int32)), .val (.ref b1), .val (.ref b5), .val (.ref b6), .val (.ref b6), .val (.int (1 : Int32)), .val (.ref b1), .val (.ref b1)] [(.int (1 : Int32))])) _
        refine XS.istore X11.here hx rfl (hb hby at_253) rfl (l' := #[.val (.int p1), .val (.int p2), .val (.int p3), .val (.int p4), .val (.int x0), .val (.int x1), .val (.int x2), .val (.ref b1), .val (.ref b5), .val (.int (0 : Int32)), .val (.int (0 : Int32)), .val (.ref b1), .val (.ref b5), .val (.ref b6), .val (.ref b6), .val (.int (1 : Int32)), .val (.ref b1), .val (.ref b1)]) rfl ?_
        show Steps p.tables e below (T11.setTop (mkF m 255 #[.val (.int p1), .val (.int p2), .val (.int p3), .val (.int p4), .val (.int x0), .val (.int x1), .val (.int x2), .val (.ref b1), .val (.ref b5), .val (.int (0 : Int32)), .val (.int (0 : Int32)), .val (.ref b1), .val (.ref b5), .val (.ref b6), .val (.ref b6), .val (.int (1 : Int32)), .val (.ref b1), .val (.ref b1)] [])) _
        refine XS.iload X11.here hx rfl (hb hby at_255) rfl ?_
        show Steps p.tables e below (T11.setTop (mkF m 257 #[.val (.int p1), .val (.int p2), .val (.int p3), .val (.int p4), .val (.int x0), .val (.int x1), .val (.int x2), .val (.ref b1), .val (.ref b5), .val (.int (0 : Int32)), .val (.int (0 : Int32)), .val (.ref b1), .val (.ref b5), .val (.ref b6), .val (.ref b6), .val (.int (1 : Int32)), .val (.ref b1), .val (.ref b1)] [(.int (1 : Int32))])) _
        refine XS.ifNo X11.here hx rfl (hb hby at_257) rfl ((if0 _ _).trans (feq (by decide)).1) ?_
        show Steps p.tables e below (T11.setTop (mkF m 260 #[.val (.int p1), .val (.int p2), .val (.int p3), .val (.int p4), .val (.int x0), .val (.int x1), .val (.int x2), .val (.ref b1), .val (.ref b5), .val (.int (0 : Int32)), .val (.int (0 : Int32)), .val (.ref b1), .val (.ref b5), .val (.ref b6), .val (.ref b6), .val (.int (1 : Int32)), .val (.ref b1), .val (.ref b1)] [])) _
        refine XS.aload X11.here hx rfl (hb hby at_260) rfl rfl ?_
        show Steps p.tables e below (T11.setTop (mkF m 262 #[.val (.int p1), .val (.int p2), .val (.int p3), .val (.int p4), .val (.int x0), .val (.int x1), .val (.int x2), .val (.ref b1), .val (.ref b5), .val (.int (0 : Int32)), .val (.int (0 : Int32)), .val (.ref b1), .val (.ref b5), .val (.ref b6), .val (.ref b6), .val (.int (1 : Int32)), .val (.ref b1), .val (.ref b1)] [(.ref b5)])) _
        exact k
      have st16 : ∀ target, Steps p.tables e below (T11.setTop (mkF m 263 #[.val (.int p1), .val (.int p2), .val (.int p3), .val (.int p4), .val (.int x0), .val (.int x1), .val (.int x2), .val (.ref b1), .val (.ref b5), .val (.int (0 : Int32)), .val (.int (0 : Int32)), .val (.ref b1), .val (.ref b5), .val (.ref b6), .val (.ref b6), .val (.int (1 : Int32)), .val (.ref b1), .val (.ref b1)] [(.int (0 : Int32))])) target → Steps p.tables e below (T11.setTop (mkF m 262 #[.val (.int p1), .val (.int p2), .val (.int p3), .val (.int p4), .val (.int x0), .val (.int x1), .val (.int x2), .val (.ref b1), .val (.ref b5), .val (.int (0 : Int32)), .val (.int (0 : Int32)), .val (.ref b1), .val (.ref b5), .val (.ref b6), .val (.ref b6), .val (.int (1 : Int32)), .val (.ref b1), .val (.ref b1)] [(.ref b5)])) target := by
        obtain ⟨cl, Ar, q, Sz, Nn, Hs, Gt⟩ := V5
        intro target kt
        refine X11.arraylength hx (by rw [e11]; exact Ar.1) (State.isArrayOf_alike hZ.alike Ar.2.1) (g := (mkF m 262 #[.val (.int p1), .val (.int p2), .val (.int p3), .val (.int p4), .val (.int x0), .val (.int x1), .val (.int x2), .val (.ref b1), .val (.ref b5), .val (.int (0 : Int32)), .val (.int (0 : Int32)), .val (.ref b1), .val (.ref b5), .val (.ref b6), .val (.ref b6), .val (.int (1 : Int32)), .val (.ref b1), .val (.ref b1)] [(.ref b5)])) rfl rfl (hb hby at_262) _ ?_
        rw [len_of Sz Nn]
        exact kt
      refine own_go (B := T11.setTop (mkF m 263 #[.val (.int p1), .val (.int p2), .val (.int p3), .val (.int p4), .val (.int x0), .val (.int x1), .val (.int x2), .val (.ref b1), .val (.ref b5), .val (.int (0 : Int32)), .val (.int (0 : Int32)), .val (.ref b1), .val (.ref b5), .val (.ref b6), .val (.ref b6), .val (.int (1 : Int32)), .val (.ref b1), .val (.ref b1)] [(.int (0 : Int32))])) st16 ?_
      refine own_go (B := T11.setTop (mkF m 280 #[.val (.int p1), .val (.int p2), .val (.int p3), .val (.int p4), .val (.int x0), .val (.int x1), .val (.int x2), .val (.ref b1), .val (.ref b5), .val (.int (0 : Int32)), .val (.int (0 : Int32)), .val (.ref b1), .val (.ref b5), .val (.ref b6), .val (.ref b6), .val (.int (1 : Int32)), .val (.ref b1), .val (.ref b1)] [(.ref b6)])) (fun t k => ?_) ?_
      · show Steps p.tables e below (T11.setTop (mkF m 263 #[.val (.int p1), .val (.int p2), .val (.int p3), .val (.int p4), .val (.int x0), .val (.int x1), .val (.int x2), .val (.ref b1), .val (.ref b5), .val (.int (0 : Int32)), .val (.int (0 : Int32)), .val (.ref b1), .val (.ref b5), .val (.ref b6), .val (.ref b6), .val (.int (1 : Int32)), .val (.ref b1), .val (.ref b1)] [(.int (0 : Int32))])) _
        refine XS.ifNo X11.here hx rfl (hb hby at_263) rfl ((if0 _ _).trans (teq (by decide)).2) ?_
        show Steps p.tables e below (T11.setTop (mkF m 266 #[.val (.int p1), .val (.int p2), .val (.int p3), .val (.int p4), .val (.int x0), .val (.int x1), .val (.int x2), .val (.ref b1), .val (.ref b5), .val (.int (0 : Int32)), .val (.int (0 : Int32)), .val (.ref b1), .val (.ref b5), .val (.ref b6), .val (.ref b6), .val (.int (1 : Int32)), .val (.ref b1), .val (.ref b1)] [])) _
        refine XS.iconst X11.here hx rfl (hb hby at_266) ?_
        show Steps p.tables e below (T11.setTop (mkF m 267 #[.val (.int p1), .val (.int p2), .val (.int p3), .val (.int p4), .val (.int x0), .val (.int x1), .val (.int x2), .val (.ref b1), .val (.ref b5), .val (.int (0 : Int32)), .val (.int (0 : Int32)), .val (.ref b1), .val (.ref b5), .val (.ref b6), .val (.ref b6), .val (.int (1 : Int32)), .val (.ref b1), .val (.ref b1)] [(.int (1 : Int32))])) _
        refine XS.goto X11.here hx rfl (pc0 := 267) (pc' := 271) rfl (hb hby at_267) (by decide) (by decide) ?_
        show Steps p.tables e below (T11.setTop (mkF m 271 #[.val (.int p1), .val (.int p2), .val (.int p3), .val (.int p4), .val (.int x0), .val (.int x1), .val (.int x2), .val (.ref b1), .val (.ref b5), .val (.int (0 : Int32)), .val (.int (0 : Int32)), .val (.ref b1), .val (.ref b5), .val (.ref b6), .val (.ref b6), .val (.int (1 : Int32)), .val (.ref b1), .val (.ref b1)] [(.int (1 : Int32))])) _
        refine XS.istore X11.here hx rfl (hb hby at_271) rfl (l' := #[.val (.int p1), .val (.int p2), .val (.int p3), .val (.int p4), .val (.int x0), .val (.int x1), .val (.int x2), .val (.ref b1), .val (.ref b5), .val (.int (0 : Int32)), .val (.int (0 : Int32)), .val (.ref b1), .val (.ref b5), .val (.ref b6), .val (.ref b6), .val (.int (1 : Int32)), .val (.ref b1), .val (.ref b1)]) rfl ?_
        show Steps p.tables e below (T11.setTop (mkF m 273 #[.val (.int p1), .val (.int p2), .val (.int p3), .val (.int p4), .val (.int x0), .val (.int x1), .val (.int x2), .val (.ref b1), .val (.ref b5), .val (.int (0 : Int32)), .val (.int (0 : Int32)), .val (.ref b1), .val (.ref b5), .val (.ref b6), .val (.ref b6), .val (.int (1 : Int32)), .val (.ref b1), .val (.ref b1)] [])) _
        refine XS.iload X11.here hx rfl (hb hby at_273) rfl ?_
        show Steps p.tables e below (T11.setTop (mkF m 275 #[.val (.int p1), .val (.int p2), .val (.int p3), .val (.int p4), .val (.int x0), .val (.int x1), .val (.int x2), .val (.ref b1), .val (.ref b5), .val (.int (0 : Int32)), .val (.int (0 : Int32)), .val (.ref b1), .val (.ref b5), .val (.ref b6), .val (.ref b6), .val (.int (1 : Int32)), .val (.ref b1), .val (.ref b1)] [(.int (1 : Int32))])) _
        refine XS.ifNo X11.here hx rfl (hb hby at_275) rfl ((if0 _ _).trans (feq (by decide)).1) ?_
        show Steps p.tables e below (T11.setTop (mkF m 278 #[.val (.int p1), .val (.int p2), .val (.int p3), .val (.int p4), .val (.int x0), .val (.int x1), .val (.int x2), .val (.ref b1), .val (.ref b5), .val (.int (0 : Int32)), .val (.int (0 : Int32)), .val (.ref b1), .val (.ref b5), .val (.ref b6), .val (.ref b6), .val (.int (1 : Int32)), .val (.ref b1), .val (.ref b1)] [])) _
        refine XS.aload X11.here hx rfl (hb hby at_278) rfl rfl ?_
        show Steps p.tables e below (T11.setTop (mkF m 280 #[.val (.int p1), .val (.int p2), .val (.int p3), .val (.int p4), .val (.int x0), .val (.int x1), .val (.int x2), .val (.ref b1), .val (.ref b5), .val (.int (0 : Int32)), .val (.int (0 : Int32)), .val (.ref b1), .val (.ref b5), .val (.ref b6), .val (.ref b6), .val (.int (1 : Int32)), .val (.ref b1), .val (.ref b1)] [(.ref b6)])) _
        exact k
      -- pc 280: com/example/fixity/fixity/engine/AccountRequest.role
      obtain ⟨cq17, kq17, q17a, q17b, q17c⟩ := isOf hZ e11 A6
      obtain ⟨_, _, ⟨T17, L17, k17, n17⟩, -, X17, ⟨Lc17, hQ17, l17, y17, z17⟩, st17⟩ := X11.virtualBack hx (y := (⟨"com/example/fixity/fixity/engine/AccountRequest", "role", "()Ljava/util/Optional;"⟩ : MethodName)) (z := (⟨"com/example/fixity/fixity/engine/AccountRequest", "role", "()Ljava/util/Optional;"⟩ : MethodName)) hown (mvT hZ (hw _ (List.mem_of_getElem? (i := 58) rfl))) (mvT hZ (hw _ (List.mem_of_getElem? (i := 59) rfl))) (notFace_of_selects (args := #[]) (mvT hZ (hw _ (List.mem_of_getElem? (i := 61) rfl)))) (mvT hZ (hw _ (List.mem_of_getElem? (i := 61) rfl))) (mvT hZ (hw _ (List.mem_of_getElem? (i := 60) rfl))) (by decide) (backOf (W := 0) (rmG0role l Z a0 hw [] b6 wE T9.heap n0 O Gq8_2 S_E) hZ (hw _ (List.mem_of_getElem? (i := 62) rfl)) (hw _ (List.mem_of_getElem? (i := 4) rfl)) (by decide) (by decide)) q17a q17c (g := (mkF m 280 #[.val (.int p1), .val (.int p2), .val (.int p3), .val (.int p4), .val (.int x0), .val (.int x1), .val (.int x2), .val (.ref b1), .val (.ref b5), .val (.int (0 : Int32)), .val (.int (0 : Int32)), .val (.ref b1), .val (.ref b5), .val (.ref b6), .val (.ref b6), .val (.int (1 : Int32)), .val (.ref b1), .val (.ref b1)] [(.ref b6)])) rfl (by rw [hml]; rfl) (Steps.refl _) (argsL := []) (rest := []) (lenOf pd_5 rfl) rfl (by show 2 * 0 + _ ≤ _; exact Nat.le_of_eq rfl) (hb hby at_280) (fun _ hWm => ⟨rfl, e11, (by decide : 6 + 0 ≤ _), (by decide : 47 + 0 ≤ _)⟩)
      dsimp only [Pt.U, Pt.locs, Pt.cells, Pt.slots] at X17 l17 y17 z17 st17 hQ17
      subst l17 y17 z17
      obtain ⟨rfl, Nq17, Kq17⟩ := hQ17
      replace N := Fr.app N Nq17
      refine own_go (B := T17.setTop (mkF m 283 #[.val (.int p1), .val (.int p2), .val (.int p3), .val (.int p4), .val (.int x0), .val (.int x1), .val (.int x2), .val (.ref b1), .val (.ref b5), .val (.int (0 : Int32)), .val (.int (0 : Int32)), .val (.ref b1), .val (.ref b5), .val (.ref b6), .val (.ref b6), .val (.int (1 : Int32)), .val (.ref b1), .val (.ref b1)] [(.ref wE)])) (fun t k => st17.trans k) ?_
      refine own_go (B := T17.setTop (mkF m 284 #[.val (.int p1), .val (.int p2), .val (.int p3), .val (.int p4), .val (.int x0), .val (.int x1), .val (.int x2), .val (.ref b1), .val (.ref b5), .val (.int (0 : Int32)), .val (.int (0 : Int32)), .val (.ref b1), .val (.ref b5), .val (.ref b6), .val (.ref b6), .val (.int (1 : Int32)), .val (.ref b1), .val (.ref b1)] [.null, (.ref wE)])) (fun t k => ?_) ?_
      · show Steps p.tables e below (T17.setTop (mkF m 283 #[.val (.int p1), .val (.int p2), .val (.int p3), .val (.int p4), .val (.int x0), .val (.int x1), .val (.int x2), .val (.ref b1), .val (.ref b5), .val (.int (0 : Int32)), .val (.int (0 : Int32)), .val (.ref b1), .val (.ref b5), .val (.ref b6), .val (.ref b6), .val (.int (1 : Int32)), .val (.ref b1), .val (.ref b1)] [(.ref wE)])) _
        refine XS.aconstNull X17.here hx rfl (hb hby at_283) ?_
        show Steps p.tables e below (T17.setTop (mkF m 284 #[.val (.int p1), .val (.int p2), .val (.int p3), .val (.int p4), .val (.int x0), .val (.int x1), .val (.int x2), .val (.ref b1), .val (.ref b5), .val (.int (0 : Int32)), .val (.int (0 : Int32)), .val (.ref b1), .val (.ref b5), .val (.ref b6), .val (.ref b6), .val (.int (1 : Int32)), .val (.ref b1), .val (.ref b1)] [.null, (.ref wE)])) _
        exact k
      -- pc 284: java/util/Optional.orElse
      obtain ⟨cq18, kq18, q18a, q18b, q18c⟩ := isOf hZ Kq17 (E_E.ext O.2)
      obtain ⟨_, _, ⟨T18, L18, k18, n18⟩, -, X18, ⟨Lc18, hQ18, l18, y18, z18⟩, st18⟩ := X17.virtualBack hx (y := (⟨"java/util/Optional", "orElse", "(Ljava/lang/Object;)Ljava/lang/Object;"⟩ : MethodName)) (z := (⟨"java/util/Optional", "orElse", "(Ljava/lang/Object;)Ljava/lang/Object;"⟩ : MethodName)) hown (mvT hZ (hw _ (List.mem_of_getElem? (i := 52) rfl))) (mvT hZ (hw _ (List.mem_of_getElem? (i := 53) rfl))) (notFace_of_selects (args := #[]) (mvT hZ (hw _ (List.mem_of_getElem? (i := 55) rfl)))) (mvT hZ (hw _ (List.mem_of_getElem? (i := 55) rfl))) (mvT hZ (hw _ (List.mem_of_getElem? (i := 54) rfl))) (by decide) (backOf (W := 0) (rmOE0 l Z a0 hw [] wE T9.heap n0 O (F_E.ext O.2)) hZ (hw _ (List.mem_of_getElem? (i := 56) rfl)) (hw _ (List.mem_of_getElem? (i := 41) rfl)) (by decide) (by decide)) q18a q18c (g := (mkF m 284 #[.val (.int p1), .val (.int p2), .val (.int p3), .val (.int p4), .val (.int x0), .val (.int x1), .val (.int x2), .val (.ref b1), .val (.ref b5), .val (.int (0 : Int32)), .val (.int (0 : Int32)), .val (.ref b1), .val (.ref b5), .val (.ref b6), .val (.ref b6), .val (.int (1 : Int32)), .val (.ref b1), .val (.ref b1)] [.null, (.ref wE)])) rfl (by rw [hml]; rfl) (Steps.refl _) (argsL := [.null]) (rest := []) (lenOf pd_6 rfl) rfl (by show 2 * 0 + _ ≤ _; exact Nat.le_of_eq rfl) (hb hby at_284) (fun _ hWm => ⟨rfl, Kq17, (by decide : 6 + 0 ≤ _), (by decide : 47 + 0 ≤ _)⟩)
      dsimp only [Pt.U, Pt.locs, Pt.cells, Pt.slots] at X18 l18 y18 z18 st18 hQ18
      subst l18 y18 z18
      obtain ⟨rfl, Nq18, Kq18⟩ := hQ18
      replace N := Fr.app N Nq18
      refine own_go (B := T18.setTop (mkF m 287 #[.val (.int p1), .val (.int p2), .val (.int p3), .val (.int p4), .val (.int x0), .val (.int x1), .val (.int x2), .val (.ref b1), .val (.ref b5), .val (.int (0 : Int32)), .val (.int (0 : Int32)), .val (.ref b1), .val (.ref b5), .val (.ref b6), .val (.ref b6), .val (.int (1 : Int32)), .val (.ref b1), .val (.ref b1)] [.null])) (fun t k => st18.trans k) ?_
      refine own_go (B := T18.setTop (mkF m 304 #[.val (.int p1), .val (.int p2), .val (.int p3), .val (.int p4), .val (.int x0), .val (.int x1), .val (.int x2), .val (.ref b1), .val (.ref b5), .val (.int (0 : Int32)), .val (.int (0 : Int32)), .val (.ref b1), .val (.ref b5), .val (.ref b6), .val (.ref b6), .val (.int (1 : Int32)), .val (.ref b1), .val (.ref b1)] [(.ref b6)])) (fun t k => ?_) ?_
      · show Steps p.tables e below (T18.setTop (mkF m 287 #[.val (.int p1), .val (.int p2), .val (.int p3), .val (.int p4), .val (.int x0), .val (.int x1), .val (.int x2), .val (.ref b1), .val (.ref b5), .val (.int (0 : Int32)), .val (.int (0 : Int32)), .val (.ref b1), .val (.ref b5), .val (.ref b6), .val (.ref b6), .val (.int (1 : Int32)), .val (.ref b1), .val (.ref b1)] [.null])) _
        refine XT.ifnonnullNo X18.here hx rfl (hb hby at_287) rfl ?_
        show Steps p.tables e below (T18.setTop (mkF m 290 #[.val (.int p1), .val (.int p2), .val (.int p3), .val (.int p4), .val (.int x0), .val (.int x1), .val (.int x2), .val (.ref b1), .val (.ref b5), .val (.int (0 : Int32)), .val (.int (0 : Int32)), .val (.ref b1), .val (.ref b5), .val (.ref b6), .val (.ref b6), .val (.int (1 : Int32)), .val (.ref b1), .val (.ref b1)] [])) _
        refine XS.iconst X18.here hx rfl (hb hby at_290) ?_
        show Steps p.tables e below (T18.setTop (mkF m 291 #[.val (.int p1), .val (.int p2), .val (.int p3), .val (.int p4), .val (.int x0), .val (.int x1), .val (.int x2), .val (.ref b1), .val (.ref b5), .val (.int (0 : Int32)), .val (.int (0 : Int32)), .val (.ref b1), .val (.ref b5), .val (.ref b6), .val (.ref b6), .val (.int (1 : Int32)), .val (.ref b1), .val (.ref b1)] [(.int (1 : Int32))])) _
        refine XS.goto X18.here hx rfl (pc0 := 291) (pc' := 295) rfl (hb hby at_291) (by decide) (by decide) ?_
        show Steps p.tables e below (T18.setTop (mkF m 295 #[.val (.int p1), .val (.int p2), .val (.int p3), .val (.int p4), .val (.int x0), .val (.int x1), .val (.int x2), .val (.ref b1), .val (.ref b5), .val (.int (0 : Int32)), .val (.int (0 : Int32)), .val (.ref b1), .val (.ref b5), .val (.ref b6), .val (.ref b6), .val (.int (1 : Int32)), .val (.ref b1), .val (.ref b1)] [(.int (1 : Int32))])) _
        refine XS.istore X18.here hx rfl (hb hby at_295) rfl (l' := #[.val (.int p1), .val (.int p2), .val (.int p3), .val (.int p4), .val (.int x0), .val (.int x1), .val (.int x2), .val (.ref b1), .val (.ref b5), .val (.int (0 : Int32)), .val (.int (0 : Int32)), .val (.ref b1), .val (.ref b5), .val (.ref b6), .val (.ref b6), .val (.int (1 : Int32)), .val (.ref b1), .val (.ref b1)]) rfl ?_
        show Steps p.tables e below (T18.setTop (mkF m 297 #[.val (.int p1), .val (.int p2), .val (.int p3), .val (.int p4), .val (.int x0), .val (.int x1), .val (.int x2), .val (.ref b1), .val (.ref b5), .val (.int (0 : Int32)), .val (.int (0 : Int32)), .val (.ref b1), .val (.ref b5), .val (.ref b6), .val (.ref b6), .val (.int (1 : Int32)), .val (.ref b1), .val (.ref b1)] [])) _
        refine XS.iload X18.here hx rfl (hb hby at_297) rfl ?_
        show Steps p.tables e below (T18.setTop (mkF m 299 #[.val (.int p1), .val (.int p2), .val (.int p3), .val (.int p4), .val (.int x0), .val (.int x1), .val (.int x2), .val (.ref b1), .val (.ref b5), .val (.int (0 : Int32)), .val (.int (0 : Int32)), .val (.ref b1), .val (.ref b5), .val (.ref b6), .val (.ref b6), .val (.int (1 : Int32)), .val (.ref b1), .val (.ref b1)] [(.int (1 : Int32))])) _
        refine XS.ifNo X18.here hx rfl (hb hby at_299) rfl ((if0 _ _).trans (feq (by decide)).1) ?_
        show Steps p.tables e below (T18.setTop (mkF m 302 #[.val (.int p1), .val (.int p2), .val (.int p3), .val (.int p4), .val (.int x0), .val (.int x1), .val (.int x2), .val (.ref b1), .val (.ref b5), .val (.int (0 : Int32)), .val (.int (0 : Int32)), .val (.ref b1), .val (.ref b5), .val (.ref b6), .val (.ref b6), .val (.int (1 : Int32)), .val (.ref b1), .val (.ref b1)] [])) _
        refine XS.aload X18.here hx rfl (hb hby at_302) rfl rfl ?_
        show Steps p.tables e below (T18.setTop (mkF m 304 #[.val (.int p1), .val (.int p2), .val (.int p3), .val (.int p4), .val (.int x0), .val (.int x1), .val (.int x2), .val (.ref b1), .val (.ref b5), .val (.int (0 : Int32)), .val (.int (0 : Int32)), .val (.ref b1), .val (.ref b5), .val (.ref b6), .val (.ref b6), .val (.int (1 : Int32)), .val (.ref b1), .val (.ref b1)] [(.ref b6)])) _
        exact k
      -- pc 304: com/example/fixity/fixity/engine/AccountRequest.unreadable
      obtain ⟨cq19, kq19, q19a, q19b, q19c⟩ := isOf hZ Kq18 A6
      obtain ⟨_, _, ⟨T19, L19, k19, n19⟩, -, X19, ⟨Lc19, hQ19, l19, y19, z19⟩, st19⟩ := X18.virtualBack hx (y := (⟨"com/example/fixity/fixity/engine/AccountRequest", "unreadable", "()Ljava/util/Optional;"⟩ : MethodName)) (z := (⟨"com/example/fixity/fixity/engine/AccountRequest", "unreadable", "()Ljava/util/Optional;"⟩ : MethodName)) hown (mvT hZ (hw _ (List.mem_of_getElem? (i := 66) rfl))) (mvT hZ (hw _ (List.mem_of_getElem? (i := 67) rfl))) (notFace_of_selects (args := #[]) (mvT hZ (hw _ (List.mem_of_getElem? (i := 69) rfl)))) (mvT hZ (hw _ (List.mem_of_getElem? (i := 69) rfl))) (mvT hZ (hw _ (List.mem_of_getElem? (i := 68) rfl))) (by decide) (backOf (W := 0) (rmG0unreadable l Z a0 hw [] b6 wE T9.heap n0 O Gq8_1 S_E) hZ (hw _ (List.mem_of_getElem? (i := 70) rfl)) (hw _ (List.mem_of_getElem? (i := 4) rfl)) (by decide) (by decide)) q19a q19c (g := (mkF m 304 #[.val (.int p1), .val (.int p2), .val (.int p3), .val (.int p4), .val (.int x0), .val (.int x1), .val (.int x2), .val (.ref b1), .val (.ref b5), .val (.int (0 : Int32)), .val (.int (0 : Int32)), .val (.ref b1), .val (.ref b5), .val (.ref b6), .val (.ref b6), .val (.int (1 : Int32)), .val (.ref b1), .val (.ref b1)] [(.ref b6)])) rfl (by rw [hml]; rfl) (Steps.refl _) (argsL := []) (rest := []) (lenOf pd_5 rfl) rfl (by show 2 * 0 + _ ≤ _; exact Nat.le_of_eq rfl) (hb hby at_304) (fun _ hWm => ⟨rfl, Kq18, (by decide : 6 + 0 ≤ _), (by decide : 47 + 0 ≤ _)⟩)
      dsimp only [Pt.U, Pt.locs, Pt.cells, Pt.slots] at X19 l19 y19 z19 st19 hQ19
      subst l19 y19 z19
      obtain ⟨rfl, Nq19, Kq19⟩ := hQ19
      replace N := Fr.app N Nq19
      refine own_go (B := T19.setTop (mkF m 307 #[.val (.int p1), .val (.int p2), .val (.int p3), .val (.int p4), .val (.int x0), .val (.int x1), .val (.int x2), .val (.ref b1), .val (.ref b5), .val (.int (0 : Int32)), .val (.int (0 : Int32)), .val (.ref b1), .val (.ref b5), .val (.ref b6), .val (.ref b6), .val (.int (1 : Int32)), .val (.ref b1), .val (.ref b1)] [(.ref wE)])) (fun t k => st19.trans k) ?_
      refine own_go (B := T19.setTop (mkF m 308 #[.val (.int p1), .val (.int p2), .val (.int p3), .val (.int p4), .val (.int x0), .val (.int x1), .val (.int x2), .val (.ref b1), .val (.ref b5), .val (.int (0 : Int32)), .val (.int (0 : Int32)), .val (.ref b1), .val (.ref b5), .val (.ref b6), .val (.ref b6), .val (.int (1 : Int32)), .val (.ref b1), .val (.ref b1)] [.null, (.ref wE)])) (fun t k => ?_) ?_
      · show Steps p.tables e below (T19.setTop (mkF m 307 #[.val (.int p1), .val (.int p2), .val (.int p3), .val (.int p4), .val (.int x0), .val (.int x1), .val (.int x2), .val (.ref b1), .val (.ref b5), .val (.int (0 : Int32)), .val (.int (0 : Int32)), .val (.ref b1), .val (.ref b5), .val (.ref b6), .val (.ref b6), .val (.int (1 : Int32)), .val (.ref b1), .val (.ref b1)] [(.ref wE)])) _
        refine XS.aconstNull X19.here hx rfl (hb hby at_307) ?_
        show Steps p.tables e below (T19.setTop (mkF m 308 #[.val (.int p1), .val (.int p2), .val (.int p3), .val (.int p4), .val (.int x0), .val (.int x1), .val (.int x2), .val (.ref b1), .val (.ref b5), .val (.int (0 : Int32)), .val (.int (0 : Int32)), .val (.ref b1), .val (.ref b5), .val (.ref b6), .val (.ref b6), .val (.int (1 : Int32)), .val (.ref b1), .val (.ref b1)] [.null, (.ref wE)])) _
        exact k
      -- pc 308: java/util/Optional.orElse
      obtain ⟨cq20, kq20, q20a, q20b, q20c⟩ := isOf hZ Kq19 (E_E.ext O.2)
      obtain ⟨_, _, ⟨T20, L20, k20, n20⟩, -, X20, ⟨Lc20, hQ20, l20, y20, z20⟩, st20⟩ := X19.virtualBack hx (y := (⟨"java/util/Optional", "orElse", "(Ljava/lang/Object;)Ljava/lang/Object;"⟩ : MethodName)) (z := (⟨"java/util/Optional", "orElse", "(Ljava/lang/Object;)Ljava/lang/Object;"⟩ : MethodName)) hown (mvT hZ (hw _ (List.mem_of_getElem? (i := 52) rfl))) (mvT hZ (hw _ (List.mem_of_getElem? (i := 53) rfl))) (notFace_of_selects (args := #[]) (mvT hZ (hw _ (List.mem_of_getElem? (i := 55) rfl)))) (mvT hZ (hw _ (List.mem_of_getElem? (i := 55) rfl))) (mvT hZ (hw _ (List.mem_of_getElem? (i := 54) rfl))) (by decide) (backOf (W := 0) (rmOE0 l Z a0 hw [] wE T9.heap n0 O (F_E.ext O.2)) hZ (hw _ (List.mem_of_getElem? (i := 56) rfl)) (hw _ (List.mem_of_getElem? (i := 41) rfl)) (by decide) (by decide)) q20a q20c (g := (mkF m 308 #[.val (.int p1), .val (.int p2), .val (.int p3), .val (.int p4), .val (.int x0), .val (.int x1), .val (.int x2), .val (.ref b1), .val (.ref b5), .val (.int (0 : Int32)), .val (.int (0 : Int32)), .val (.ref b1), .val (.ref b5), .val (.ref b6), .val (.ref b6), .val (.int (1 : Int32)), .val (.ref b1), .val (.ref b1)] [.null, (.ref wE)])) rfl (by rw [hml]; rfl) (Steps.refl _) (argsL := [.null]) (rest := []) (lenOf pd_6 rfl) rfl (by show 2 * 0 + _ ≤ _; exact Nat.le_of_eq rfl) (hb hby at_308) (fun _ hWm => ⟨rfl, Kq19, (by decide : 6 + 0 ≤ _), (by decide : 47 + 0 ≤ _)⟩)
      dsimp only [Pt.U, Pt.locs, Pt.cells, Pt.slots] at X20 l20 y20 z20 st20 hQ20
      subst l20 y20 z20
      obtain ⟨rfl, Nq20, Kq20⟩ := hQ20
      replace N := Fr.app N Nq20
      refine own_go (B := T20.setTop (mkF m 311 #[.val (.int p1), .val (.int p2), .val (.int p3), .val (.int p4), .val (.int x0), .val (.int x1), .val (.int x2), .val (.ref b1), .val (.ref b5), .val (.int (0 : Int32)), .val (.int (0 : Int32)), .val (.ref b1), .val (.ref b5), .val (.ref b6), .val (.ref b6), .val (.int (1 : Int32)), .val (.ref b1), .val (.ref b1)] [.null])) (fun t k => st20.trans k) ?_
      refine own_go (B := T20.setTop (mkF m 323 #[.val (.int p1), .val (.int p2), .val (.int p3), .val (.int p4), .val (.int x0), .val (.int x1), .val (.int x2), .val (.ref b1), .val (.ref b5), .val (.int (0 : Int32)), .val (.int (0 : Int32)), .val (.ref b1), .val (.ref b5), .val (.ref b6), .val (.ref b6), .val (.int (1 : Int32)), .val (.ref b1), .val (.ref b1)] [(.int (1 : Int32))])) (fun t k => ?_) ?_
      · show Steps p.tables e below (T20.setTop (mkF m 311 #[.val (.int p1), .val (.int p2), .val (.int p3), .val (.int p4), .val (.int x0), .val (.int x1), .val (.int x2), .val (.ref b1), .val (.ref b5), .val (.int (0 : Int32)), .val (.int (0 : Int32)), .val (.ref b1), .val (.ref b5), .val (.ref b6), .val (.ref b6), .val (.int (1 : Int32)), .val (.ref b1), .val (.ref b1)] [.null])) _
        refine XT.ifnonnullNo X20.here hx rfl (hb hby at_311) rfl ?_
        show Steps p.tables e below (T20.setTop (mkF m 314 #[.val (.int p1), .val (.int p2), .val (.int p3), .val (.int p4), .val (.int x0), .val (.int x1), .val (.int x2), .val (.ref b1), .val (.ref b5), .val (.int (0 : Int32)), .val (.int (0 : Int32)), .val (.ref b1), .val (.ref b5), .val (.ref b6), .val (.ref b6), .val (.int (1 : Int32)), .val (.ref b1), .val (.ref b1)] [])) _
        refine XS.iconst X20.here hx rfl (hb hby at_314) ?_
        show Steps p.tables e below (T20.setTop (mkF m 315 #[.val (.int p1), .val (.int p2), .val (.int p3), .val (.int p4), .val (.int x0), .val (.int x1), .val (.int x2), .val (.ref b1), .val (.ref b5), .val (.int (0 : Int32)), .val (.int (0 : Int32)), .val (.ref b1), .val (.ref b5), .val (.ref b6), .val (.ref b6), .val (.int (1 : Int32)), .val (.ref b1), .val (.ref b1)] [(.int (1 : Int32))])) _
        refine XS.goto X20.here hx rfl (pc0 := 315) (pc' := 319) rfl (hb hby at_315) (by decide) (by decide) ?_
        show Steps p.tables e below (T20.setTop (mkF m 319 #[.val (.int p1), .val (.int p2), .val (.int p3), .val (.int p4), .val (.int x0), .val (.int x1), .val (.int x2), .val (.ref b1), .val (.ref b5), .val (.int (0 : Int32)), .val (.int (0 : Int32)), .val (.ref b1), .val (.ref b5), .val (.ref b6), .val (.ref b6), .val (.int (1 : Int32)), .val (.ref b1), .val (.ref b1)] [(.int (1 : Int32))])) _
        refine XS.istore X20.here hx rfl (hb hby at_319) rfl (l' := #[.val (.int p1), .val (.int p2), .val (.int p3), .val (.int p4), .val (.int x0), .val (.int x1), .val (.int x2), .val (.ref b1), .val (.ref b5), .val (.int (0 : Int32)), .val (.int (0 : Int32)), .val (.ref b1), .val (.ref b5), .val (.ref b6), .val (.ref b6), .val (.int (1 : Int32)), .val (.ref b1), .val (.ref b1)]) rfl ?_
        show Steps p.tables e below (T20.setTop (mkF m 321 #[.val (.int p1), .val (.int p2), .val (.int p3), .val (.int p4), .val (.int x0), .val (.int x1), .val (.int x2), .val (.ref b1), .val (.ref b5), .val (.int (0 : Int32)), .val (.int (0 : Int32)), .val (.ref b1), .val (.ref b5), .val (.ref b6), .val (.ref b6), .val (.int (1 : Int32)), .val (.ref b1), .val (.ref b1)] [])) _
        refine XS.iload X20.here hx rfl (hb hby at_321) rfl ?_
        show Steps p.tables e below (T20.setTop (mkF m 323 #[.val (.int p1), .val (.int p2), .val (.int p3), .val (.int p4), .val (.int x0), .val (.int x1), .val (.int x2), .val (.ref b1), .val (.ref b5), .val (.int (0 : Int32)), .val (.int (0 : Int32)), .val (.ref b1), .val (.ref b5), .val (.ref b6), .val (.ref b6), .val (.int (1 : Int32)), .val (.ref b1), .val (.ref b1)] [(.int (1 : Int32))])) _
        exact k
      obtain ⟨fs, hr, hrun, hended, hEnd⟩ := X20.leaveW hS (by rw [Kq20]; exact hk) (v := some (.int (1 : Int32))) (fun h => by rw [Bd.returns] at h; cases h)
      refine ⟨_, _, retN X20 hx (t := .boolean) Bd.returns (by simp) (hb hby at_323) hr, hfin _ _ ⟨hrun, hended, _, _, rfl, ?_, hEnd.1, hEnd.2.1, hEnd.2.2.1, hEnd.2.2.2.mono (by decide) (by decide)⟩⟩
      show Q0 Z p1 p2 p3 p4 wE h0 n0 _ T20.heap _
      rw [Kq20]
      exact ⟨rfl, N⟩
    · refine own_go (B := T5.setTop (mkF m 103 #[.val (.int p1), .val (.int p2), .val (.int p3), .val (.int p4), .val (.int x0), .val (.int x1), .val (.int x2), .val (.ref b1), .val (.ref b5), .val (.int (0 : Int32)), .val (.int (1 : Int32)), .val (.ref b5), .val (.ref b1), .unset, .unset, .unset, .unset, .unset] [])) (fun t k => ?_) ?_
      · show Steps p.tables e below (T5.setTop (mkF m 49 #[.val (.int p1), .val (.int p2), .val (.int p3), .val (.int p4), .val (.int x0), .val (.int x1), .val (.int x2), .val (.ref b1), .val (.ref b5), .unset, .unset, .unset, .unset, .unset, .unset, .unset, .unset, .unset] [])) _
        refine XS.iloadN X5.here hx rfl (hb hby at_49) rfl ?_
        show Steps p.tables e below (T5.setTop (mkF m 50 #[.val (.int p1), .val (.int p2), .val (.int p3), .val (.int p4), .val (.int x0), .val (.int x1), .val (.int x2), .val (.ref b1), .val (.ref b5), .unset, .unset, .unset, .unset, .unset, .unset, .unset, .unset, .unset] [(.int p4)])) _
        refine XS.iconst X5.here hx rfl (hb hby at_50) ?_
        show Steps p.tables e below (T5.setTop (mkF m 51 #[.val (.int p1), .val (.int p2), .val (.int p3), .val (.int p4), .val (.int x0), .val (.int x1), .val (.int x2), .val (.ref b1), .val (.ref b5), .unset, .unset, .unset, .unset, .unset, .unset, .unset, .unset, .unset] [(.int (1 : Int32)), (.int p4)])) _
        refine XS.iand X5.here hx rfl (hb hby at_51) rfl ?_
        show Steps p.tables e below (T5.setTop (mkF m 52 #[.val (.int p1), .val (.int p2), .val (.int p3), .val (.int p4), .val (.int x0), .val (.int x1), .val (.int x2), .val (.ref b1), .val (.ref b5), .unset, .unset, .unset, .unset, .unset, .unset, .unset, .unset, .unset] [(.int (p4 &&& (1 : Int32)))])) _
        refine XS.ifYes X5.here hx rfl (pc0 := 52) (pc' := 59) rfl (hb hby at_52) rfl ((if0 _ _).trans (teq ka).1) (by decide) (by decide) ?_
        show Steps p.tables e below (T5.setTop (mkF m 59 #[.val (.int p1), .val (.int p2), .val (.int p3), .val (.int p4), .val (.int x0), .val (.int x1), .val (.int x2), .val (.ref b1), .val (.ref b5), .unset, .unset, .unset, .unset, .unset, .unset, .unset, .unset, .unset] [])) _
        refine XS.iconst X5.here hx rfl (hb hby at_59) ?_
        show Steps p.tables e below (T5.setTop (mkF m 60 #[.val (.int p1), .val (.int p2), .val (.int p3), .val (.int p4), .val (.int x0), .val (.int x1), .val (.int x2), .val (.ref b1), .val (.ref b5), .unset, .unset, .unset, .unset, .unset, .unset, .unset, .unset, .unset] [(.int (0 : Int32))])) _
        refine XS.istore X5.here hx rfl (hb hby at_60) rfl (l' := #[.val (.int p1), .val (.int p2), .val (.int p3), .val (.int p4), .val (.int x0), .val (.int x1), .val (.int x2), .val (.ref b1), .val (.ref b5), .val (.int (0 : Int32)), .unset, .unset, .unset, .unset, .unset, .unset, .unset, .unset]) rfl ?_
        show Steps p.tables e below (T5.setTop (mkF m 62 #[.val (.int p1), .val (.int p2), .val (.int p3), .val (.int p4), .val (.int x0), .val (.int x1), .val (.int x2), .val (.ref b1), .val (.ref b5), .val (.int (0 : Int32)), .unset, .unset, .unset, .unset, .unset, .unset, .unset, .unset] [])) _
        refine XS.iloadN X5.here hx rfl (hb hby at_62) rfl ?_
        show Steps p.tables e below (T5.setTop (mkF m 63 #[.val (.int p1), .val (.int p2), .val (.int p3), .val (.int p4), .val (.int x0), .val (.int x1), .val (.int x2), .val (.ref b1), .val (.ref b5), .val (.int (0 : Int32)), .unset, .unset, .unset, .unset, .unset, .unset, .unset, .unset] [(.int p4)])) _
        refine XS.iconst X5.here hx rfl (hb hby at_63) ?_
        show Steps p.tables e below (T5.setTop (mkF m 64 #[.val (.int p1), .val (.int p2), .val (.int p3), .val (.int p4), .val (.int x0), .val (.int x1), .val (.int x2), .val (.ref b1), .val (.ref b5), .val (.int (0 : Int32)), .unset, .unset, .unset, .unset, .unset, .unset, .unset, .unset] [(.int (2 : Int32)), (.int p4)])) _
        refine XS.iand X5.here hx rfl (hb hby at_64) rfl ?_
        show Steps p.tables e below (T5.setTop (mkF m 65 #[.val (.int p1), .val (.int p2), .val (.int p3), .val (.int p4), .val (.int x0), .val (.int x1), .val (.int x2), .val (.ref b1), .val (.ref b5), .val (.int (0 : Int32)), .unset, .unset, .unset, .unset, .unset, .unset, .unset, .unset] [(.int (p4 &&& (2 : Int32)))])) _
        refine XS.ifNo X5.here hx rfl (hb hby at_65) rfl ((if0 _ _).trans (feq kb).1) ?_
        show Steps p.tables e below (T5.setTop (mkF m 68 #[.val (.int p1), .val (.int p2), .val (.int p3), .val (.int p4), .val (.int x0), .val (.int x1), .val (.int x2), .val (.ref b1), .val (.ref b5), .val (.int (0 : Int32)), .unset, .unset, .unset, .unset, .unset, .unset, .unset, .unset] [])) _
        refine XS.iconst X5.here hx rfl (hb hby at_68) ?_
        show Steps p.tables e below (T5.setTop (mkF m 69 #[.val (.int p1), .val (.int p2), .val (.int p3), .val (.int p4), .val (.int x0), .val (.int x1), .val (.int x2), .val (.ref b1), .val (.ref b5), .val (.int (0 : Int32)), .unset, .unset, .unset, .unset, .unset, .unset, .unset, .unset] [(.int (1 : Int32))])) _
        refine XS.goto X5.here hx rfl (pc0 := 69) (pc' := 73) rfl (hb hby at_69) (by decide) (by decide) ?_
        show Steps p.tables e below (T5.setTop (mkF m 73 #[.val (.int p1), .val (.int p2), .val (.int p3), .val (.int p4), .val (.int x0), .val (.int x1), .val (.int x2), .val (.ref b1), .val (.ref b5), .val (.int (0 : Int32)), .unset, .unset, .unset, .unset, .unset, .unset, .unset, .unset] [(.int (1 : Int32))])) _
        refine XS.istore X5.here hx rfl (hb hby at_73) rfl (l' := #[.val (.int p1), .val (.int p2), .val (.int p3), .val (.int p4), .val (.int x0), .val (.int x1), .val (.int x2), .val (.ref b1), .val (.ref b5), .val (.int (0 : Int32)), .val (.int (1 : Int32)), .unset, .unset, .unset, .unset, .unset, .unset, .unset]) rfl ?_
        show Steps p.tables e below (T5.setTop (mkF m 75 #[.val (.int p1), .val (.int p2), .val (.int p3), .val (.int p4), .val (.int x0), .val (.int x1), .val (.int x2), .val (.ref b1), .val (.ref b5), .val (.int (0 : Int32)), .val (.int (1 : Int32)), .unset, .unset, .unset, .unset, .unset, .unset, .unset] [])) _
        refine XS.iload X5.here hx rfl (hb hby at_75) rfl ?_
        show Steps p.tables e below (T5.setTop (mkF m 77 #[.val (.int p1), .val (.int p2), .val (.int p3), .val (.int p4), .val (.int x0), .val (.int x1), .val (.int x2), .val (.ref b1), .val (.ref b5), .val (.int (0 : Int32)), .val (.int (1 : Int32)), .unset, .unset, .unset, .unset, .unset, .unset, .unset] [(.int (1 : Int32))])) _
        refine XS.ifNo X5.here hx rfl (hb hby at_77) rfl ((if0 _ _).trans (feq (by decide)).1) ?_
        show Steps p.tables e below (T5.setTop (mkF m 80 #[.val (.int p1), .val (.int p2), .val (.int p3), .val (.int p4), .val (.int x0), .val (.int x1), .val (.int x2), .val (.ref b1), .val (.ref b5), .val (.int (0 : Int32)), .val (.int (1 : Int32)), .unset, .unset, .unset, .unset, .unset, .unset, .unset] [])) _
        refine XS.aload X5.here hx rfl (hb hby at_80) rfl rfl ?_
        show Steps p.tables e below (T5.setTop (mkF m 82 #[.val (.int p1), .val (.int p2), .val (.int p3), .val (.int p4), .val (.int x0), .val (.int x1), .val (.int x2), .val (.ref b1), .val (.ref b5), .val (.int (0 : Int32)), .val (.int (1 : Int32)), .unset, .unset, .unset, .unset, .unset, .unset, .unset] [(.ref b5)])) _
        refine XS.goto X5.here hx rfl (pc0 := 82) (pc' := 87) rfl (hb hby at_82) (by decide) (by decide) ?_
        show Steps p.tables e below (T5.setTop (mkF m 87 #[.val (.int p1), .val (.int p2), .val (.int p3), .val (.int p4), .val (.int x0), .val (.int x1), .val (.int x2), .val (.ref b1), .val (.ref b5), .val (.int (0 : Int32)), .val (.int (1 : Int32)), .unset, .unset, .unset, .unset, .unset, .unset, .unset] [(.ref b5)])) _
        refine XS.astore X5.here hx rfl (hb hby at_87) rfl rfl (l' := #[.val (.int p1), .val (.int p2), .val (.int p3), .val (.int p4), .val (.int x0), .val (.int x1), .val (.int x2), .val (.ref b1), .val (.ref b5), .val (.int (0 : Int32)), .val (.int (1 : Int32)), .val (.ref b5), .unset, .unset, .unset, .unset, .unset, .unset]) rfl ?_
        show Steps p.tables e below (T5.setTop (mkF m 89 #[.val (.int p1), .val (.int p2), .val (.int p3), .val (.int p4), .val (.int x0), .val (.int x1), .val (.int x2), .val (.ref b1), .val (.ref b5), .val (.int (0 : Int32)), .val (.int (1 : Int32)), .val (.ref b5), .unset, .unset, .unset, .unset, .unset, .unset] [])) _
        refine XS.iload X5.here hx rfl (hb hby at_89) rfl ?_
        show Steps p.tables e below (T5.setTop (mkF m 91 #[.val (.int p1), .val (.int p2), .val (.int p3), .val (.int p4), .val (.int x0), .val (.int x1), .val (.int x2), .val (.ref b1), .val (.ref b5), .val (.int (0 : Int32)), .val (.int (1 : Int32)), .val (.ref b5), .unset, .unset, .unset, .unset, .unset, .unset] [(.int (1 : Int32))])) _
        refine XS.ifNo X5.here hx rfl (hb hby at_91) rfl ((if0 _ _).trans (feq (by decide)).1) ?_
        show Steps p.tables e below (T5.setTop (mkF m 94 #[.val (.int p1), .val (.int p2), .val (.int p3), .val (.int p4), .val (.int x0), .val (.int x1), .val (.int x2), .val (.ref b1), .val (.ref b5), .val (.int (0 : Int32)), .val (.int (1 : Int32)), .val (.ref b5), .unset, .unset, .unset, .unset, .unset, .unset] [])) _
        refine XS.aload X5.here hx rfl (hb hby at_94) rfl rfl ?_
        show Steps p.tables e below (T5.setTop (mkF m 96 #[.val (.int p1), .val (.int p2), .val (.int p3), .val (.int p4), .val (.int x0), .val (.int x1), .val (.int x2), .val (.ref b1), .val (.ref b5), .val (.int (0 : Int32)), .val (.int (1 : Int32)), .val (.ref b5), .unset, .unset, .unset, .unset, .unset, .unset] [(.ref b1)])) _
        refine XS.goto X5.here hx rfl (pc0 := 96) (pc' := 101) rfl (hb hby at_96) (by decide) (by decide) ?_
        show Steps p.tables e below (T5.setTop (mkF m 101 #[.val (.int p1), .val (.int p2), .val (.int p3), .val (.int p4), .val (.int x0), .val (.int x1), .val (.int x2), .val (.ref b1), .val (.ref b5), .val (.int (0 : Int32)), .val (.int (1 : Int32)), .val (.ref b5), .unset, .unset, .unset, .unset, .unset, .unset] [(.ref b1)])) _
        refine XS.astore X5.here hx rfl (hb hby at_101) rfl rfl (l' := #[.val (.int p1), .val (.int p2), .val (.int p3), .val (.int p4), .val (.int x0), .val (.int x1), .val (.int x2), .val (.ref b1), .val (.ref b5), .val (.int (0 : Int32)), .val (.int (1 : Int32)), .val (.ref b5), .val (.ref b1), .unset, .unset, .unset, .unset, .unset]) rfl ?_
        show Steps p.tables e below (T5.setTop (mkF m 103 #[.val (.int p1), .val (.int p2), .val (.int p3), .val (.int p4), .val (.int x0), .val (.int x1), .val (.int x2), .val (.ref b1), .val (.ref b5), .val (.int (0 : Int32)), .val (.int (1 : Int32)), .val (.ref b5), .val (.ref b1), .unset, .unset, .unset, .unset, .unset] [])) _
        exact k
      obtain ⟨T22, h22, X22, e22, E22, A22, D22, -, st22⟩ := newO X5 hx hZ hown (hw _ (List.mem_of_getElem? (i := 2) rfl)) (hw _ (List.mem_of_getElem? (i := 3) rfl)) (hw _ (List.mem_of_getElem? (i := 4) rfl)) e5 (g := (mkF m 103 #[.val (.int p1), .val (.int p2), .val (.int p3), .val (.int p4), .val (.int x0), .val (.int x1), .val (.int x2), .val (.ref b1), .val (.ref b5), .val (.int (0 : Int32)), .val (.int (1 : Int32)), .val (.ref b5), .val (.ref b1), .unset, .unset, .unset, .unset, .unset] [])) rfl (hb hby at_103) (by decide) (by decide)
      obtain ⟨b22, g22⟩ : ∃ z, z = h5.size := ⟨_, rfl⟩
      rw [← g22] at A22 D22 st22
      have lt_b1_b22 : b1 < b22 := Nat.lt_of_lt_of_le G1.lt (Nat.le_of_eq g22.symm)
      have lt_b5_b22 : b5 < b22 := Nat.lt_of_lt_of_le G5.lt (Nat.le_of_eq g22.symm)
      have g_b22 : n0 ≤ b22 := Nat.le_trans (own_oldsz O) (Nat.le_of_eq g22.symm)
      replace G1 := G1.ext E22
      replace V4 := V4.ext E22
      replace G5 := G5.ext E22
      replace V5 := V5.ext E22
      replace O := O.ext E22
      replace hk := Nat.le_trans hk E22.1
      have F22_unreadable : Fld Z h22 b22 "com/example/fixity/fixity/engine/AccountRequest" "unreadable" "Ljava/lang/String;" .null := D22 (Or.inr (hw _ (List.mem_of_getElem? (i := 12) rfl))) (ty := (.object "java/lang/String")) (by decide)
      have F22_password : Fld Z h22 b22 "com/example/fixity/fixity/engine/AccountRequest" "password" "[C" .null := D22 (Or.inl (hw _ (List.mem_of_getElem? (i := 33) rfl))) (ty := (.array .char)) (by decide)
      have F22_role : Fld Z h22 b22 "com/example/fixity/fixity/engine/AccountRequest" "role" "Ljava/lang/String;" .null := D22 (Or.inl (hw _ (List.mem_of_getElem? (i := 64) rfl))) (ty := (.object "java/lang/String")) (by decide)
      refine own_go (B := T22.setTop (mkF m 106 #[.val (.int p1), .val (.int p2), .val (.int p3), .val (.int p4), .val (.int x0), .val (.int x1), .val (.int x2), .val (.ref b1), .val (.ref b5), .val (.int (0 : Int32)), .val (.int (1 : Int32)), .val (.ref b5), .val (.ref b1), .unset, .unset, .unset, .unset, .unset] [(.ref b22)])) st22 ?_
      refine own_go (B := T22.setTop (mkF m 107 #[.val (.int p1), .val (.int p2), .val (.int p3), .val (.int p4), .val (.int x0), .val (.int x1), .val (.int x2), .val (.ref b1), .val (.ref b5), .val (.int (0 : Int32)), .val (.int (1 : Int32)), .val (.ref b5), .val (.ref b1), .unset, .unset, .unset, .unset, .unset] [(.ref b22), (.ref b22)])) (fun t k => ?_) ?_
      · show Steps p.tables e below (T22.setTop (mkF m 106 #[.val (.int p1), .val (.int p2), .val (.int p3), .val (.int p4), .val (.int x0), .val (.int x1), .val (.int x2), .val (.ref b1), .val (.ref b5), .val (.int (0 : Int32)), .val (.int (1 : Int32)), .val (.ref b5), .val (.ref b1), .unset, .unset, .unset, .unset, .unset] [(.ref b22)])) _
        refine XS.dup X22.here hx rfl (hb hby at_106) rfl rfl ?_
        show Steps p.tables e below (T22.setTop (mkF m 107 #[.val (.int p1), .val (.int p2), .val (.int p3), .val (.int p4), .val (.int x0), .val (.int x1), .val (.int x2), .val (.ref b1), .val (.ref b5), .val (.int (0 : Int32)), .val (.int (1 : Int32)), .val (.ref b5), .val (.ref b1), .unset, .unset, .unset, .unset, .unset] [(.ref b22), (.ref b22)])) _
        exact k
      -- pc 107: com/example/fixity/fixity/engine/AccountRequest.<init>
      obtain ⟨_, _, ⟨T23, L23, k23, n23⟩, -, X23, ⟨Lc23, hQ23, l23, y23, z23⟩, st23⟩ := X22.specialBack hx (y := (⟨"com/example/fixity/fixity/engine/AccountRequest", "<init>", "()V"⟩ : MethodName)) rfl hown (mvT hZ (hw _ (List.mem_of_getElem? (i := 5) rfl))) (mvT hZ (hw _ (List.mem_of_getElem? (i := 6) rfl))) (mvT hZ (hw _ (List.mem_of_getElem? (i := 7) rfl))) (by decide) (backOf (W := 1) (rmInit l Z a0 hw [] b22 h22 n0 O A22 F22_unreadable F22_role F22_password g_b22) hZ (hw _ (List.mem_of_getElem? (i := 7) rfl)) (hw _ (List.mem_of_getElem? (i := 4) rfl)) (by decide) (by decide)) (g := (mkF m 107 #[.val (.int p1), .val (.int p2), .val (.int p3), .val (.int p4), .val (.int x0), .val (.int x1), .val (.int x2), .val (.ref b1), .val (.ref b5), .val (.int (0 : Int32)), .val (.int (1 : Int32)), .val (.ref b5), .val (.ref b1), .unset, .unset, .unset, .unset, .unset] [(.ref b22), (.ref b22)])) rfl (by rw [hml]; rfl) (Steps.refl _) (a := b22) (argsL := []) (rest := [(.ref b22)]) (lenOf pd_3 rfl) rfl (by show 2 * 0 + _ ≤ _; exact Nat.le_of_eq rfl) (hb hby at_107) (fun _ hWm => ⟨rfl, e22, (by decide : 3 + 0 ≤ _), (by decide : 10 + 0 ≤ _)⟩)
      dsimp only [Pt.U, Pt.locs, Pt.cells, Pt.slots] at X23 l23 y23 z23 st23 hQ23
      subst l23 y23 z23
      obtain ⟨rfl, Nq23, Kq23, Gq23_0, Gq23_1, Gq23_2⟩ := hQ23
      replace N := Fr.app N Nq23
      replace G1 := G1.keep Kq23
      replace V4 := V4.keep Kq23 (ninS (Nat.ne_of_lt lt_b1_b22) nin0)
      replace G5 := G5.keep Kq23
      replace V5 := V5.keep Kq23 (ninS (Nat.ne_of_lt lt_b5_b22) nin0)
      replace A22 := A22.keep Kq23
      clear F22_unreadable
      clear F22_password
      clear F22_role
      replace O := O.keep Kq23 (allS g_b22 all0)
      replace hk := Nat.le_trans hk Kq23.1
      refine own_go (B := T23.setTop (mkF m 110 #[.val (.int p1), .val (.int p2), .val (.int p3), .val (.int p4), .val (.int x0), .val (.int x1), .val (.int x2), .val (.ref b1), .val (.ref b5), .val (.int (0 : Int32)), .val (.int (1 : Int32)), .val (.ref b5), .val (.ref b1), .unset, .unset, .unset, .unset, .unset] [(.ref b22)])) (fun t k => st23.trans k) ?_
      refine own_go (B := T23.setTop (mkF m 116 #[.val (.int p1), .val (.int p2), .val (.int p3), .val (.int p4), .val (.int x0), .val (.int x1), .val (.int x2), .val (.ref b1), .val (.ref b5), .val (.int (0 : Int32)), .val (.int (1 : Int32)), .val (.ref b5), .val (.ref b1), .val (.ref b22), .unset, .unset, .unset, .unset] [(.ref b5), (.ref b22)])) (fun t k => ?_) ?_
      · show Steps p.tables e below (T23.setTop (mkF m 110 #[.val (.int p1), .val (.int p2), .val (.int p3), .val (.int p4), .val (.int x0), .val (.int x1), .val (.int x2), .val (.ref b1), .val (.ref b5), .val (.int (0 : Int32)), .val (.int (1 : Int32)), .val (.ref b5), .val (.ref b1), .unset, .unset, .unset, .unset, .unset] [(.ref b22)])) _
        refine XS.astore X23.here hx rfl (hb hby at_110) rfl rfl (l' := #[.val (.int p1), .val (.int p2), .val (.int p3), .val (.int p4), .val (.int x0), .val (.int x1), .val (.int x2), .val (.ref b1), .val (.ref b5), .val (.int (0 : Int32)), .val (.int (1 : Int32)), .val (.ref b5), .val (.ref b1), .val (.ref b22), .unset, .unset, .unset, .unset]) rfl ?_
        show Steps p.tables e below (T23.setTop (mkF m 112 #[.val (.int p1), .val (.int p2), .val (.int p3), .val (.int p4), .val (.int x0), .val (.int x1), .val (.int x2), .val (.ref b1), .val (.ref b5), .val (.int (0 : Int32)), .val (.int (1 : Int32)), .val (.ref b5), .val (.ref b1), .val (.ref b22), .unset, .unset, .unset, .unset] [])) _
        refine XS.aload X23.here hx rfl (hb hby at_112) rfl rfl ?_
        show Steps p.tables e below (T23.setTop (mkF m 114 #[.val (.int p1), .val (.int p2), .val (.int p3), .val (.int p4), .val (.int x0), .val (.int x1), .val (.int x2), .val (.ref b1), .val (.ref b5), .val (.int (0 : Int32)), .val (.int (1 : Int32)), .val (.ref b5), .val (.ref b1), .val (.ref b22), .unset, .unset, .unset, .unset] [(.ref b22)])) _
        refine XS.aload X23.here hx rfl (hb hby at_114) rfl rfl ?_
        show Steps p.tables e below (T23.setTop (mkF m 116 #[.val (.int p1), .val (.int p2), .val (.int p3), .val (.int p4), .val (.int x0), .val (.int x1), .val (.int x2), .val (.ref b1), .val (.ref b5), .val (.int (0 : Int32)), .val (.int (1 : Int32)), .val (.ref b5), .val (.ref b1), .val (.ref b22), .unset, .unset, .unset, .unset] [(.ref b5), (.ref b22)])) _
        exact k
      -- pc 116: com/example/fixity/fixity/engine/AccountRequest.password
      obtain ⟨cq24, kq24, q24a, q24b, q24c⟩ := isOf hZ rfl A22
      obtain ⟨_, _, ⟨T24, L24, k24, n24⟩, -, X24, hSq24, hgq24, ⟨Lc24, hQ24, l24, y24, z24⟩, st24⟩ := X23.virtualBackS hx (y := (⟨"com/example/fixity/fixity/engine/AccountRequest", "password", "([C)Lcom/example/fixity/fixity/engine/AccountRequest;"⟩ : MethodName)) (z := (⟨"com/example/fixity/fixity/engine/AccountRequest", "password", "([C)Lcom/example/fixity/fixity/engine/AccountRequest;"⟩ : MethodName)) hown (mvT hZ (hw _ (List.mem_of_getElem? (i := 13) rfl))) (mvT hZ (hw _ (List.mem_of_getElem? (i := 14) rfl))) (notFace_of_selects (args := #[]) (mvT hZ (hw _ (List.mem_of_getElem? (i := 16) rfl)))) (mvT hZ (hw _ (List.mem_of_getElem? (i := 16) rfl))) (mvT hZ (hw _ (List.mem_of_getElem? (i := 15) rfl))) (by decide) (backOfS (W := 0) (rmSetpassword l Z a0 hw [] b22 b5 (.null) T23.heap n0 O A22 Gq23_2 Gq23_0 Gq23_1 G5 g_b22) hZ (hw _ (List.mem_of_getElem? (i := 17) rfl)) (hw _ (List.mem_of_getElem? (i := 4) rfl)) (by decide) (by decide)) q24a q24c (g := (mkF m 116 #[.val (.int p1), .val (.int p2), .val (.int p3), .val (.int p4), .val (.int x0), .val (.int x1), .val (.int x2), .val (.ref b1), .val (.ref b5), .val (.int (0 : Int32)), .val (.int (1 : Int32)), .val (.ref b5), .val (.ref b1), .val (.ref b22), .unset, .unset, .unset, .unset] [(.ref b5), (.ref b22)])) rfl (by rw [hml]; rfl) (Steps.refl _) (argsL := [(.ref b5)]) (rest := []) (lenOf pd_4 rfl) rfl (by show 2 * 0 + _ ≤ _; exact Nat.le_of_eq rfl) (hb hby at_116) (fun _ hWm => ⟨rfl, rfl, (by decide : 3 + 2 ≤ _), (by decide : 10 + 36 ≤ _)⟩)
      dsimp only [Pt.U, Pt.locs, Pt.cells, Pt.slots] at X24 l24 y24 z24 st24 hQ24 hSq24 hgq24
      subst l24 y24 z24
      obtain ⟨X24, hS, hZ, hown⟩ := rebS hS hk X24 hSq24 hgq24 hZ hown
      obtain ⟨rfl, Nq24, Kq24, Gq24_0, Gq24_1, Gq24_2⟩ := hQ24
      replace N := Fr.app N Nq24
      replace G1 := G1.keep Kq24
      replace V4 := V4.keep Kq24 (ninS (Nat.ne_of_lt lt_b1_b22) nin0)
      replace G5 := G5.keep Kq24
      replace V5 := V5.keep Kq24 (ninS (Nat.ne_of_lt lt_b5_b22) nin0)
      replace A22 := A22.keep Kq24
      clear Gq23_0
      clear Gq23_1
      clear Gq23_2
      replace O := O.keep Kq24 (allS g_b22 all0)
      have hk : T24.heap.size ≤ T24.heap.size := Nat.le_refl _
      refine own_go (B := T24.setTop (mkF m 119 #[.val (.int p1), .val (.int p2), .val (.int p3), .val (.int p4), .val (.int x0), .val (.int x1), .val (.int x2), .val (.ref b1), .val (.ref b5), .val (.int (0 : Int32)), .val (.int (1 : Int32)), .val (.ref b5), .val (.ref b1), .val (.ref b22), .unset, .unset, .unset, .unset] [(.ref b22)])) (fun t k => st24.trans k) ?_
      refine own_go (B := T24.setTop (mkF m 178 #[.val (.int p1), .val (.int p2), .val (.int p3), .val (.int p4), .val (.int x0), .val (.int x1), .val (.int x2), .val (.ref b1), .val (.ref b5), .val (.int (0 : Int32)), .val (.int (1 : Int32)), .val (.ref b5), .val (.ref b1), .val (.ref b22), .val (.ref b22), .val (.int (1 : Int32)), .val (.ref b5), .unset] [(.ref b22)])) (fun t k => ?_) ?_
      · show Steps p.tables e below (T24.setTop (mkF m 119 #[.val (.int p1), .val (.int p2), .val (.int p3), .val (.int p4), .val (.int x0), .val (.int x1), .val (.int x2), .val (.ref b1), .val (.ref b5), .val (.int (0 : Int32)), .val (.int (1 : Int32)), .val (.ref b5), .val (.ref b1), .val (.ref b22), .unset, .unset, .unset, .unset] [(.ref b22)])) _
        refine XS.astore X24.here hx rfl (hb hby at_119) rfl rfl (l' := #[.val (.int p1), .val (.int p2), .val (.int p3), .val (.int p4), .val (.int x0), .val (.int x1), .val (.int x2), .val (.ref b1), .val (.ref b5), .val (.int (0 : Int32)), .val (.int (1 : Int32)), .val (.ref b5), .val (.ref b1), .val (.ref b22), .val (.ref b22), .unset, .unset, .unset]) rfl ?_
        show Steps p.tables e below (T24.setTop (mkF m 121 #[.val (.int p1), .val (.int p2), .val (.int p3), .val (.int p4), .val (.int x0), .val (.int x1), .val (.int x2), .val (.ref b1), .val (.ref b5), .val (.int (0 : Int32)), .val (.int (1 : Int32)), .val (.ref b5), .val (.ref b1), .val (.ref b22), .val (.ref b22), .unset, .unset, .unset] [])) _
        refine XS.aload X24.here hx rfl (hb hby at_121) rfl rfl ?_
        show Steps p.tables e below (T24.setTop (mkF m 123 #[.val (.int p1), .val (.int p2), .val (.int p3), .val (.int p4), .val (.int x0), .val (.int x1), .val (.int x2), .val (.ref b1), .val (.ref b5), .val (.int (0 : Int32)), .val (.int (1 : Int32)), .val (.ref b5), .val (.ref b1), .val (.ref b22), .val (.ref b22), .unset, .unset, .unset] [(.ref b22)])) _
        refine XS.aload X24.here hx rfl (hb hby at_123) rfl rfl ?_
        show Steps p.tables e below (T24.setTop (mkF m 125 #[.val (.int p1), .val (.int p2), .val (.int p3), .val (.int p4), .val (.int x0), .val (.int x1), .val (.int x2), .val (.ref b1), .val (.ref b5), .val (.int (0 : Int32)), .val (.int (1 : Int32)), .val (.ref b5), .val (.ref b1), .val (.ref b22), .val (.ref b22), .unset, .unset, .unset] [(.ref b22), (.ref b22)])) _
        refine Jvm.RoadKit.acmp (g := (mkF m 125 #[.val (.int p1), .val (.int p2), .val (.int p3), .val (.int p4), .val (.int x0), .val (.int x1), .val (.int x2), .val (.ref b1), .val (.ref b5), .val (.int (0 : Int32)), .val (.int (1 : Int32)), .val (.ref b5), .val (.ref b1), .val (.ref b22), .val (.ref b22), .unset, .unset, .unset] [(.ref b22), (.ref b22)])) X24 hx rfl rfl rfl (pc0 := 125) (pc' := 128) (same := true) rfl (hb hby at_125) rfl (decide_eq_true (congrArg Value.ref rfl)) (by decide) (by decide) ?_
        show Steps p.tables e below (T24.setTop (mkF m 128 #[.val (.int p1), .val (.int p2), .val (.int p3), .val (.int p4), .val (.int x0), .val (.int x1), .val (.int x2), .val (.ref b1), .val (.ref b5), .val (.int (0 : Int32)), .val (.int (1 : Int32)), .val (.ref b5), .val (.ref b1), .val (.ref b22), .val (.ref b22), .unset, .unset, .unset] [])) _
        refine XS.iconst X24.here hx rfl (hb hby at_128) ?_
        show Steps p.tables e below (T24.setTop (mkF m 129 #[.val (.int p1), .val (.int p2), .val (.int p3), .val (.int p4), .val (.int x0), .val (.int x1), .val (.int x2), .val (.ref b1), .val (.ref b5), .val (.int (0 : Int32)), .val (.int (1 : Int32)), .val (.ref b5), .val (.ref b1), .val (.ref b22), .val (.ref b22), .unset, .unset, .unset] [(.int (1 : Int32))])) _
        refine XS.goto X24.here hx rfl (pc0 := 129) (pc' := 133) rfl (hb hby at_129) (by decide) (by decide) ?_
        show Steps p.tables e below (T24.setTop (mkF m 133 #[.val (.int p1), .val (.int p2), .val (.int p3), .val (.int p4), .val (.int x0), .val (.int x1), .val (.int x2), .val (.ref b1), .val (.ref b5), .val (.int (0 : Int32)), .val (.int (1 : Int32)), .val (.ref b5), .val (.ref b1), .val (.ref b22), .val (.ref b22), .unset, .unset, .unset] [(.int (1 : Int32))])) _
        refine XS.istore X24.here hx rfl (hb hby at_133) rfl (l' := #[.val (.int p1), .val (.int p2), .val (.int p3), .val (.int p4), .val (.int x0), .val (.int x1), .val (.int x2), .val (.ref b1), .val (.ref b5), .val (.int (0 : Int32)), .val (.int (1 : Int32)), .val (.ref b5), .val (.ref b1), .val (.ref b22), .val (.ref b22), .val (.int (1 : Int32)), .unset, .unset]) rfl ?_
        show Steps p.tables e below (T24.setTop (mkF m 135 #[.val (.int p1), .val (.int p2), .val (.int p3), .val (.int p4), .val (.int x0), .val (.int x1), .val (.int x2), .val (.ref b1), .val (.ref b5), .val (.int (0 : Int32)), .val (.int (1 : Int32)), .val (.ref b5), .val (.ref b1), .val (.ref b22), .val (.ref b22), .val (.int (1 : Int32)), .unset, .unset] [])) _
        refine XS.aload X24.here hx rfl (hb hby at_135) rfl rfl ?_
        show Steps p.tables e below (T24.setTop (mkF m 137 #[.val (.int p1), .val (.int p2), .val (.int p3), .val (.int p4), .val (.int x0), .val (.int x1), .val (.int x2), .val (.ref b1), .val (.ref b5), .val (.int (0 : Int32)), .val (.int (1 : Int32)), .val (.ref b5), .val (.ref b1), .val (.ref b22), .val (.ref b22), .val (.int (1 : Int32)), .unset, .unset] [(.ref b5)])) _
        refine XS.astore X24.here hx rfl (hb hby at_137) rfl rfl (l' := #[.val (.int p1), .val (.int p2), .val (.int p3), .val (.int p4), .val (.int x0), .val (.int x1), .val (.int x2), .val (.ref b1), .val (.ref b5), .val (.int (0 : Int32)), .val (.int (1 : Int32)), .val (.ref b5), .val (.ref b1), .val (.ref b22), .val (.ref b22), .val (.int (1 : Int32)), .val (.ref b5), .unset]) rfl ?_
        show Steps p.tables e below (T24.setTop (mkF m 139 #[.val (.int p1), .val (.int p2), .val (.int p3), .val (.int p4), .val (.int x0), .val (.int x1), .val (.int x2), .val (.ref b1), .val (.ref b5), .val (.int (0 : Int32)), .val (.int (1 : Int32)), .val (.ref b5), .val (.ref b1), .val (.ref b22), .val (.ref b22), .val (.int (1 : Int32)), .val (.ref b5), .unset] [])) _
        refine XS.iload X24.here hx rfl (hb hby at_139) rfl ?_
        show Steps p.tables e below (T24.setTop (mkF m 141 #[.val (.int p1), .val (.int p2), .val (.int p3), .val (.int p4), .val (.int x0), .val (.int x1), .val (.int x2), .val (.ref b1), .val (.ref b5), .val (.int (0 : Int32)), .val (.int (1 : Int32)), .val (.ref b5), .val (.ref b1), .val (.ref b22), .val (.ref b22), .val (.int (1 : Int32)), .val (.ref b5), .unset] [(.int (0 : Int32))])) _
        refine XS.ifYes X24.here hx rfl (pc0 := 141) (pc' := 176) rfl (hb hby at_141) rfl ((if0 _ _).trans (teq (by decide)).1) (by decide) (by decide) ?_
        show Steps p.tables e below (T24.setTop (mkF m 176 #[.val (.int p1), .val (.int p2), .val (.int p3), .val (.int p4), .val (.int x0), .val (.int x1), .val (.int x2), .val (.ref b1), .val (.ref b5), .val (.int (0 : Int32)), .val (.int (1 : Int32)), .val (.ref b5), .val (.ref b1), .val (.ref b22), .val (.ref b22), .val (.int (1 : Int32)), .val (.ref b5), .unset] [])) _
        refine XS.aload X24.here hx rfl (hb hby at_176) rfl rfl ?_
        show Steps p.tables e below (T24.setTop (mkF m 178 #[.val (.int p1), .val (.int p2), .val (.int p3), .val (.int p4), .val (.int x0), .val (.int x1), .val (.int x2), .val (.ref b1), .val (.ref b5), .val (.int (0 : Int32)), .val (.int (1 : Int32)), .val (.ref b5), .val (.ref b1), .val (.ref b22), .val (.ref b22), .val (.int (1 : Int32)), .val (.ref b5), .unset] [(.ref b22)])) _
        exact k
      -- pc 178: com/example/fixity/fixity/engine/AccountRequest.password
      obtain ⟨cq25, kq25, q25a, q25b, q25c⟩ := isOf hZ rfl A22
      obtain ⟨_, _, ⟨T25, L25, k25, n25⟩, -, X25, ⟨Lc25, hQ25, l25, y25, z25⟩, st25⟩ := X24.virtualBack hx (y := (⟨"com/example/fixity/fixity/engine/AccountRequest", "password", "()Ljava/util/Optional;"⟩ : MethodName)) (z := (⟨"com/example/fixity/fixity/engine/AccountRequest", "password", "()Ljava/util/Optional;"⟩ : MethodName)) hown (mvT hZ (hw _ (List.mem_of_getElem? (i := 34) rfl))) (mvT hZ (hw _ (List.mem_of_getElem? (i := 35) rfl))) (notFace_of_selects (args := #[]) (mvT hZ (hw _ (List.mem_of_getElem? (i := 37) rfl)))) (mvT hZ (hw _ (List.mem_of_getElem? (i := 37) rfl))) (mvT hZ (hw _ (List.mem_of_getElem? (i := 36) rfl))) (by decide) (backOf (W := 0) (rmG1password l Z a0 hw [] b22 b5 T24.heap n0 O Gq24_0) hZ (hw _ (List.mem_of_getElem? (i := 38) rfl)) (hw _ (List.mem_of_getElem? (i := 4) rfl)) (by decide) (by decide)) q25a q25c (g := (mkF m 178 #[.val (.int p1), .val (.int p2), .val (.int p3), .val (.int p4), .val (.int x0), .val (.int x1), .val (.int x2), .val (.ref b1), .val (.ref b5), .val (.int (0 : Int32)), .val (.int (1 : Int32)), .val (.ref b5), .val (.ref b1), .val (.ref b22), .val (.ref b22), .val (.int (1 : Int32)), .val (.ref b5), .unset] [(.ref b22)])) rfl (by rw [hml]; rfl) (Steps.refl _) (argsL := []) (rest := []) (lenOf pd_5 rfl) rfl (by show 2 * 0 + _ ≤ _; exact Nat.le_of_eq rfl) (hb hby at_178) (fun _ hWm => ⟨rfl, rfl, (by decide : 5 + 1 ≤ _), (by decide : 46 + 1 ≤ _)⟩)
      dsimp only [Pt.U, Pt.locs, Pt.cells, Pt.slots] at X25 l25 y25 z25 st25 hQ25
      subst l25 y25 z25
      obtain ⟨r25, rfl, Nq25, Kq25, fq25_r, Gq25_0, Gq25_1⟩ := hQ25
      replace N := Fr.app N Nq25
      have lt_b1_r25 : b1 < r25 := Nat.lt_of_lt_of_le G1.lt fq25_r
      have lt_b5_r25 : b5 < r25 := Nat.lt_of_lt_of_le G5.lt fq25_r
      have lt_b22_r25 : b22 < r25 := Nat.lt_of_lt_of_le A22.lt fq25_r
      have g_r25 : n0 ≤ r25 := Nat.le_trans (own_oldsz O) fq25_r
      replace G1 := G1.keep Kq25
      replace V4 := V4.keep Kq25 nin0
      replace G5 := G5.keep Kq25
      replace V5 := V5.keep Kq25 nin0
      replace A22 := A22.keep Kq25
      replace Gq24_0 := Gq24_0.keep Kq25 nin0
      replace Gq24_1 := Gq24_1.keep Kq25 nin0
      replace Gq24_2 := Gq24_2.keep Kq25 nin0
      replace O := O.keep Kq25 all0
      replace hk := Nat.le_trans hk Kq25.1
      refine own_go (B := T25.setTop (mkF m 181 #[.val (.int p1), .val (.int p2), .val (.int p3), .val (.int p4), .val (.int x0), .val (.int x1), .val (.int x2), .val (.ref b1), .val (.ref b5), .val (.int (0 : Int32)), .val (.int (1 : Int32)), .val (.ref b5), .val (.ref b1), .val (.ref b22), .val (.ref b22), .val (.int (1 : Int32)), .val (.ref b5), .unset] [(.ref r25)])) (fun t k => st25.trans k) ?_
      refine own_go (B := T25.setTop (mkF m 182 #[.val (.int p1), .val (.int p2), .val (.int p3), .val (.int p4), .val (.int x0), .val (.int x1), .val (.int x2), .val (.ref b1), .val (.ref b5), .val (.int (0 : Int32)), .val (.int (1 : Int32)), .val (.ref b5), .val (.ref b1), .val (.ref b22), .val (.ref b22), .val (.int (1 : Int32)), .val (.ref b5), .unset] [.null, (.ref r25)])) (fun t k => ?_) ?_
      · show Steps p.tables e below (T25.setTop (mkF m 181 #[.val (.int p1), .val (.int p2), .val (.int p3), .val (.int p4), .val (.int x0), .val (.int x1), .val (.int x2), .val (.ref b1), .val (.ref b5), .val (.int (0 : Int32)), .val (.int (1 : Int32)), .val (.ref b5), .val (.ref b1), .val (.ref b22), .val (.ref b22), .val (.int (1 : Int32)), .val (.ref b5), .unset] [(.ref r25)])) _
        refine XS.aconstNull X25.here hx rfl (hb hby at_181) ?_
        show Steps p.tables e below (T25.setTop (mkF m 182 #[.val (.int p1), .val (.int p2), .val (.int p3), .val (.int p4), .val (.int x0), .val (.int x1), .val (.int x2), .val (.ref b1), .val (.ref b5), .val (.int (0 : Int32)), .val (.int (1 : Int32)), .val (.ref b5), .val (.ref b1), .val (.ref b22), .val (.ref b22), .val (.int (1 : Int32)), .val (.ref b5), .unset] [.null, (.ref r25)])) _
        exact k
      -- pc 182: java/util/Optional.orElse
      obtain ⟨cq26, kq26, q26a, q26b, q26c⟩ := isOf hZ rfl Gq25_0
      obtain ⟨_, _, ⟨T26, L26, k26, n26⟩, -, X26, ⟨Lc26, hQ26, l26, y26, z26⟩, st26⟩ := X25.virtualBack hx (y := (⟨"java/util/Optional", "orElse", "(Ljava/lang/Object;)Ljava/lang/Object;"⟩ : MethodName)) (z := (⟨"java/util/Optional", "orElse", "(Ljava/lang/Object;)Ljava/lang/Object;"⟩ : MethodName)) hown (mvT hZ (hw _ (List.mem_of_getElem? (i := 52) rfl))) (mvT hZ (hw _ (List.mem_of_getElem? (i := 53) rfl))) (notFace_of_selects (args := #[]) (mvT hZ (hw _ (List.mem_of_getElem? (i := 55) rfl)))) (mvT hZ (hw _ (List.mem_of_getElem? (i := 55) rfl))) (mvT hZ (hw _ (List.mem_of_getElem? (i := 54) rfl))) (by decide) (backOf (W := 0) (rmOE1 l Z a0 hw [] r25 b5 T25.heap n0 O Gq25_1) hZ (hw _ (List.mem_of_getElem? (i := 56) rfl)) (hw _ (List.mem_of_getElem? (i := 41) rfl)) (by decide) (by decide)) q26a q26c (g := (mkF m 182 #[.val (.int p1), .val (.int p2), .val (.int p3), .val (.int p4), .val (.int x0), .val (.int x1), .val (.int x2), .val (.ref b1), .val (.ref b5), .val (.int (0 : Int32)), .val (.int (1 : Int32)), .val (.ref b5), .val (.ref b1), .val (.ref b22), .val (.ref b22), .val (.int (1 : Int32)), .val (.ref b5), .unset] [.null, (.ref r25)])) rfl (by rw [hml]; rfl) (Steps.refl _) (argsL := [.null]) (rest := []) (lenOf pd_6 rfl) rfl (by show 2 * 0 + _ ≤ _; exact Nat.le_of_eq rfl) (hb hby at_182) (fun _ hWm => ⟨rfl, rfl, (by decide : 6 + 0 ≤ _), (by decide : 47 + 0 ≤ _)⟩)
      dsimp only [Pt.U, Pt.locs, Pt.cells, Pt.slots] at X26 l26 y26 z26 st26 hQ26
      subst l26 y26 z26
      obtain ⟨rfl, Nq26, Kq26⟩ := hQ26
      replace N := Fr.app N Nq26
      refine own_go (B := T26.setTop (mkF m 185 #[.val (.int p1), .val (.int p2), .val (.int p3), .val (.int p4), .val (.int x0), .val (.int x1), .val (.int x2), .val (.ref b1), .val (.ref b5), .val (.int (0 : Int32)), .val (.int (1 : Int32)), .val (.ref b5), .val (.ref b1), .val (.ref b22), .val (.ref b22), .val (.int (1 : Int32)), .val (.ref b5), .unset] [(.ref b5)])) (fun t k => st26.trans k) ?_
      obtain ⟨T27, X27, e27, st27⟩ := castY X26 hx hZ hown (hw _ (List.mem_of_getElem? (i := 57) rfl)) Kq26 (Ins.self G5) (g := (mkF m 185 #[.val (.int p1), .val (.int p2), .val (.int p3), .val (.int p4), .val (.int x0), .val (.int x1), .val (.int x2), .val (.ref b1), .val (.ref b5), .val (.int (0 : Int32)), .val (.int (1 : Int32)), .val (.ref b5), .val (.ref b1), .val (.ref b22), .val (.ref b22), .val (.int (1 : Int32)), .val (.ref b5), .unset] [(.ref b5)])) rfl rfl (hb hby at_185)
      refine own_go (B := T27.setTop (mkF m 188 #[.val (.int p1), .val (.int p2), .val (.int p3), .val (.int p4), .val (.int x0), .val (.int x1), .val (.int x2), .val (.ref b1), .val (.ref b5), .val (.int (0 : Int32)), .val (.int (1 : Int32)), .val (.ref b5), .val (.ref b1), .val (.ref b22), .val (.ref b22), .val (.int (1 : Int32)), .val (.ref b5), .unset] [(.ref b5)])) st27 ?_
      refine own_go (B := T27.setTop (mkF m 216 #[.val (.int p1), .val (.int p2), .val (.int p3), .val (.int p4), .val (.int x0), .val (.int x1), .val (.int x2), .val (.ref b1), .val (.ref b5), .val (.int (0 : Int32)), .val (.int (1 : Int32)), .val (.ref b5), .val (.ref b1), .val (.ref b22), .val (.ref b22), .val (.int (1 : Int32)), .val (.ref b5), .val (.ref b5)] [(.ref b1)])) (fun t k => ?_) ?_
      · show Steps p.tables e below (T27.setTop (mkF m 188 #[.val (.int p1), .val (.int p2), .val (.int p3), .val (.int p4), .val (.int x0), .val (.int x1), .val (.int x2), .val (.ref b1), .val (.ref b5), .val (.int (0 : Int32)), .val (.int (1 : Int32)), .val (.ref b5), .val (.ref b1), .val (.ref b22), .val (.ref b22), .val (.int (1 : Int32)), .val (.ref b5), .unset] [(.ref b5)])) _
        refine XS.astore X27.here hx rfl (hb hby at_188) rfl rfl (l' := #[.val (.int p1), .val (.int p2), .val (.int p3), .val (.int p4), .val (.int x0), .val (.int x1), .val (.int x2), .val (.ref b1), .val (.ref b5), .val (.int (0 : Int32)), .val (.int (1 : Int32)), .val (.ref b5), .val (.ref b1), .val (.ref b22), .val (.ref b22), .val (.int (1 : Int32)), .val (.ref b5), .val (.ref b5)]) rfl ?_
        show Steps p.tables e below (T27.setTop (mkF m 190 #[.val (.int p1), .val (.int p2), .val (.int p3), .val (.int p4), .val (.int x0), .val (.int x1), .val (.int x2), .val (.ref b1), .val (.ref b5), .val (.int (0 : Int32)), .val (.int (1 : Int32)), .val (.ref b5), .val (.ref b1), .val (.ref b22), .val (.ref b22), .val (.int (1 : Int32)), .val (.ref b5), .val (.ref b5)] [])) _
        refine XS.iload X27.here hx rfl (hb hby at_190) rfl ?_
        show Steps p.tables e below (T27.setTop (mkF m 192 #[.val (.int p1), .val (.int p2), .val (.int p3), .val (.int p4), .val (.int x0), .val (.int x1), .val (.int x2), .val (.ref b1), .val (.ref b5), .val (.int (0 : Int32)), .val (.int (1 : Int32)), .val (.ref b5), .val (.ref b1), .val (.ref b22), .val (.ref b22), .val (.int (1 : Int32)), .val (.ref b5), .val (.ref b5)] [(.int (1 : Int32))])) _
        refine XS.ifNo X27.here hx rfl (hb hby at_192) rfl ((if0 _ _).trans (feq (by decide)).1) ?_
        show Steps p.tables e below (T27.setTop (mkF m 195 #[.val (.int p1), .val (.int p2), .val (.int p3), .val (.int p4), .val (.int x0), .val (.int x1), .val (.int x2), .val (.ref b1), .val (.ref b5), .val (.int (0 : Int32)), .val (.int (1 : Int32)), .val (.ref b5), .val (.ref b1), .val (.ref b22), .val (.ref b22), .val (.int (1 : Int32)), .val (.ref b5), .val (.ref b5)] [])) _
        refine XS.aload X27.here hx rfl (hb hby at_195) rfl rfl ?_
        show Steps p.tables e below (T27.setTop (mkF m 197 #[.val (.int p1), .val (.int p2), .val (.int p3), .val (.int p4), .val (.int x0), .val (.int x1), .val (.int x2), .val (.ref b1), .val (.ref b5), .val (.int (0 : Int32)), .val (.int (1 : Int32)), .val (.ref b5), .val (.ref b1), .val (.ref b22), .val (.ref b22), .val (.int (1 : Int32)), .val (.ref b5), .val (.ref b5)] [(.ref b5)])) _
        refine XS.aload X27.here hx rfl (hb hby at_197) rfl rfl ?_
        show Steps p.tables e below (T27.setTop (mkF m 199 #[.val (.int p1), .val (.int p2), .val (.int p3), .val (.int p4), .val (.int x0), .val (.int x1), .val (.int x2), .val (.ref b1), .val (.ref b5), .val (.int (0 : Int32)), .val (.int (1 : Int32)), .val (.ref b5), .val (.ref b1), .val (.ref b22), .val (.ref b22), .val (.int (1 : Int32)), .val (.ref b5), .val (.ref b5)] [(.ref b5), (.ref b5)])) _
        refine Jvm.RoadKit.acmp (g := (mkF m 199 #[.val (.int p1), .val (.int p2), .val (.int p3), .val (.int p4), .val (.int x0), .val (.int x1), .val (.int x2), .val (.ref b1), .val (.ref b5), .val (.int (0 : Int32)), .val (.int (1 : Int32)), .val (.ref b5), .val (.ref b1), .val (.ref b22), .val (.ref b22), .val (.int (1 : Int32)), .val (.ref b5), .val (.ref b5)] [(.ref b5), (.ref b5)])) X27 hx rfl rfl rfl (pc0 := 199) (pc' := 202) (same := true) rfl (hb hby at_199) rfl (decide_eq_true (congrArg Value.ref rfl)) (by decide) (by decide) ?_
        show Steps p.tables e below (T27.setTop (mkF m 202 #[.val (.int p1), .val (.int p2), .val (.int p3), .val (.int p4), .val (.int x0), .val (.int x1), .val (.int x2), .val (.ref b1), .val (.ref b5), .val (.int (0 : Int32)), .val (.int (1 : Int32)), .val (.ref b5), .val (.ref b1), .val (.ref b22), .val (.ref b22), .val (.int (1 : Int32)), .val (.ref b5), .val (.ref b5)] [])) _
        refine XS.iconst X27.here hx rfl (hb hby at_202) ?_
        show Steps p.tables e below (T27.setTop (mkF m 203 #[.val (.int p1), .val (.int p2), .val (.int p3), .val (.int p4), .val (.int x0), .val (.int x1), .val (.int x2), .val (.ref b1), .val (.ref b5), .val (.int (0 : Int32)), .val (.int (1 : Int32)), .val (.ref b5), .val (.ref b1), .val (.ref b22), .val (.ref b22), .val (.int (1 : Int32)), .val (.ref b5), .val (.ref b5)] [(.int (1 : Int32))])) _
        refine XS.goto X27.here hx rfl (pc0 := 203) (pc' := 207) rfl (hb hby at_203) (by decide) (by decide) ?_
        show Steps p.tables e below (T27.setTop (mkF m 207 #[.val (.int p1), .val (.int p2), .val (.int p3), .val (.int p4), .val (.int x0), .val (.int x1), .val (.int x2), .val (.ref b1), .val (.ref b5), .val (.int (0 : Int32)), .val (.int (1 : Int32)), .val (.ref b5), .val (.ref b1), .val (.ref b22), .val (.ref b22), .val (.int (1 : Int32)), .val (.ref b5), .val (.ref b5)] [(.int (1 : Int32))])) _
        refine XS.istore X27.here hx rfl (hb hby at_207) rfl (l' := #[.val (.int p1), .val (.int p2), .val (.int p3), .val (.int p4), .val (.int x0), .val (.int x1), .val (.int x2), .val (.ref b1), .val (.ref b5), .val (.int (0 : Int32)), .val (.int (1 : Int32)), .val (.ref b5), .val (.ref b1), .val (.ref b22), .val (.ref b22), .val (.int (1 : Int32)), .val (.ref b5), .val (.ref b5)]) rfl ?_
        show Steps p.tables e below (T27.setTop (mkF m 209 #[.val (.int p1), .val (.int p2), .val (.int p3), .val (.int p4), .val (.int x0), .val (.int x1), .val (.int x2), .val (.ref b1), .val (.ref b5), .val (.int (0 : Int32)), .val (.int (1 : Int32)), .val (.ref b5), .val (.ref b1), .val (.ref b22), .val (.ref b22), .val (.int (1 : Int32)), .val (.ref b5), .val (.ref b5)] [])) _
        refine XS.iload X27.here hx rfl (hb hby at_209) rfl ?_
        show Steps p.tables e below (T27.setTop (mkF m 211 #[.val (.int p1), .val (.int p2), .val (.int p3), .val (.int p4), .val (.int x0), .val (.int x1), .val (.int x2), .val (.ref b1), .val (.ref b5), .val (.int (0 : Int32)), .val (.int (1 : Int32)), .val (.ref b5), .val (.ref b1), .val (.ref b22), .val (.ref b22), .val (.int (1 : Int32)), .val (.ref b5), .val (.ref b5)] [(.int (1 : Int32))])) _
        refine XS.ifNo X27.here hx rfl (hb hby at_211) rfl ((if0 _ _).trans (feq (by decide)).1) ?_
        show Steps p.tables e below (T27.setTop (mkF m 214 #[.val (.int p1), .val (.int p2), .val (.int p3), .val (.int p4), .val (.int x0), .val (.int x1), .val (.int x2), .val (.ref b1), .val (.ref b5), .val (.int (0 : Int32)), .val (.int (1 : Int32)), .val (.ref b5), .val (.ref b1), .val (.ref b22), .val (.ref b22), .val (.int (1 : Int32)), .val (.ref b5), .val (.ref b5)] [])) _
        refine XS.aload X27.here hx rfl (hb hby at_214) rfl rfl ?_
        show Steps p.tables e below (T27.setTop (mkF m 216 #[.val (.int p1), .val (.int p2), .val (.int p3), .val (.int p4), .val (.int x0), .val (.int x1), .val (.int x2), .val (.ref b1), .val (.ref b5), .val (.int (0 : Int32)), .val (.int (1 : Int32)), .val (.ref b5), .val (.ref b1), .val (.ref b22), .val (.ref b22), .val (.int (1 : Int32)), .val (.ref b5), .val (.ref b5)] [(.ref b1)])) _
        exact k
      have st28 : ∀ target, Steps p.tables e below (T27.setTop (mkF m 217 #[.val (.int p1), .val (.int p2), .val (.int p3), .val (.int p4), .val (.int x0), .val (.int x1), .val (.int x2), .val (.ref b1), .val (.ref b5), .val (.int (0 : Int32)), .val (.int (1 : Int32)), .val (.ref b5), .val (.ref b1), .val (.ref b22), .val (.ref b22), .val (.int (1 : Int32)), .val (.ref b5), .val (.ref b5)] [(.int (3 : Int32))])) target → Steps p.tables e below (T27.setTop (mkF m 216 #[.val (.int p1), .val (.int p2), .val (.int p3), .val (.int p4), .val (.int x0), .val (.int x1), .val (.int x2), .val (.ref b1), .val (.ref b5), .val (.int (0 : Int32)), .val (.int (1 : Int32)), .val (.ref b5), .val (.ref b1), .val (.ref b22), .val (.ref b22), .val (.int (1 : Int32)), .val (.ref b5), .val (.ref b5)] [(.ref b1)])) target := by
        obtain ⟨cl, Ar, q, Sz, Nn, Hs, Gt⟩ := V4
        intro target kt
        refine X27.arraylength hx (by rw [e27]; exact Ar.1) (State.isArrayOf_alike hZ.alike Ar.2.1) (g := (mkF m 216 #[.val (.int p1), .val (.int p2), .val (.int p3), .val (.int p4), .val (.int x0), .val (.int x1), .val (.int x2), .val (.ref b1), .val (.ref b5), .val (.int (0 : Int32)), .val (.int (1 : Int32)), .val (.ref b5), .val (.ref b1), .val (.ref b22), .val (.ref b22), .val (.int (1 : Int32)), .val (.ref b5), .val (.ref b5)] [(.ref b1)])) rfl rfl (hb hby at_216) _ ?_
        rw [len_of Sz Nn]
        exact kt
      refine own_go (B := T27.setTop (mkF m 217 #[.val (.int p1), .val (.int p2), .val (.int p3), .val (.int p4), .val (.int x0), .val (.int x1), .val (.int x2), .val (.ref b1), .val (.ref b5), .val (.int (0 : Int32)), .val (.int (1 : Int32)), .val (.ref b5), .val (.ref b1), .val (.ref b22), .val (.ref b22), .val (.int (1 : Int32)), .val (.ref b5), .val (.ref b5)] [(.int (3 : Int32))])) st28 ?_
      refine own_go (B := T27.setTop (mkF m 224 #[.val (.int p1), .val (.int p2), .val (.int p3), .val (.int p4), .val (.int x0), .val (.int x1), .val (.int x2), .val (.ref b1), .val (.ref b5), .val (.int (0 : Int32)), .val (.int (1 : Int32)), .val (.ref b5), .val (.ref b1), .val (.ref b22), .val (.ref b22), .val (.int (1 : Int32)), .val (.ref b5), .val (.ref b5)] [(.int (0 : Int32)), (.ref b1)])) (fun t k => ?_) ?_
      · show Steps p.tables e below (T27.setTop (mkF m 217 #[.val (.int p1), .val (.int p2), .val (.int p3), .val (.int p4), .val (.int x0), .val (.int x1), .val (.int x2), .val (.ref b1), .val (.ref b5), .val (.int (0 : Int32)), .val (.int (1 : Int32)), .val (.ref b5), .val (.ref b1), .val (.ref b22), .val (.ref b22), .val (.int (1 : Int32)), .val (.ref b5), .val (.ref b5)] [(.int (3 : Int32))])) _
        refine XS.iconst X27.here hx rfl (hb hby at_217) ?_
        show Steps p.tables e below (T27.setTop (mkF m 218 #[.val (.int p1), .val (.int p2), .val (.int p3), .val (.int p4), .val (.int x0), .val (.int x1), .val (.int x2), .val (.ref b1), .val (.ref b5), .val (.int (0 : Int32)), .val (.int (1 : Int32)), .val (.ref b5), .val (.ref b1), .val (.ref b22), .val (.ref b22), .val (.int (1 : Int32)), .val (.ref b5), .val (.ref b5)] [(.int (3 : Int32)), (.int (3 : Int32))])) _
        refine XS.icmpNo X27.here hx rfl (hb hby at_218) rfl (teq rfl).2 ?_
        show Steps p.tables e below (T27.setTop (mkF m 221 #[.val (.int p1), .val (.int p2), .val (.int p3), .val (.int p4), .val (.int x0), .val (.int x1), .val (.int x2), .val (.ref b1), .val (.ref b5), .val (.int (0 : Int32)), .val (.int (1 : Int32)), .val (.ref b5), .val (.ref b1), .val (.ref b22), .val (.ref b22), .val (.int (1 : Int32)), .val (.ref b5), .val (.ref b5)] [])) _
        refine XS.aload X27.here hx rfl (hb hby at_221) rfl rfl ?_
        show Steps p.tables e below (T27.setTop (mkF m 223 #[.val (.int p1), .val (.int p2), .val (.int p3), .val (.int p4), .val (.int x0), .val (.int x1), .val (.int x2), .val (.ref b1), .val (.ref b5), .val (.int (0 : Int32)), .val (.int (1 : Int32)), .val (.ref b5), .val (.ref b1), .val (.ref b22), .val (.ref b22), .val (.int (1 : Int32)), .val (.ref b5), .val (.ref b5)] [(.ref b1)])) _
        refine XS.iconst X27.here hx rfl (hb hby at_223) ?_
        show Steps p.tables e below (T27.setTop (mkF m 224 #[.val (.int p1), .val (.int p2), .val (.int p3), .val (.int p4), .val (.int x0), .val (.int x1), .val (.int x2), .val (.ref b1), .val (.ref b5), .val (.int (0 : Int32)), .val (.int (1 : Int32)), .val (.ref b5), .val (.ref b1), .val (.ref b22), .val (.ref b22), .val (.int (1 : Int32)), .val (.ref b5), .val (.ref b5)] [(.int (0 : Int32)), (.ref b1)])) _
        exact k
      obtain ⟨cl29, Ar29, q29, Sz29, Nn29, Hs29, Gt29⟩ := V4
      have hin29 : ¬ ((0 : Int32) < 0 ∨ cl29.slots.size ≤ ((0 : Int32)).toNatClampNeg) := inb_of Sz29 ⟨by decide, by decide⟩
      have hat29 : cl29.slots[((0 : Int32)).toNatClampNeg]? = some (.int x0) := Hs29.at hin29 rfl
      have st29 := X27.caload hx (j := (0 : Int32)) (v := (.int x0)) (by rw [e27]; exact Ar29.1) (State.isArrayOf_alike hZ.alike Ar29.2.1) Ar29.2.2 hin29 hat29 (g := (mkF m 224 #[.val (.int p1), .val (.int p2), .val (.int p3), .val (.int p4), .val (.int x0), .val (.int x1), .val (.int x2), .val (.ref b1), .val (.ref b5), .val (.int (0 : Int32)), .val (.int (1 : Int32)), .val (.ref b5), .val (.ref b1), .val (.ref b22), .val (.ref b22), .val (.int (1 : Int32)), .val (.ref b5), .val (.ref b5)] [(.int (0 : Int32)), (.ref b1)])) rfl rfl (hb hby at_224)
      have V29 : Arv Z T25.heap b1 k1 .char (3 : Int32) [(.int x0), (.int x1), (.int x2)] (.int (0 : Int32)) := ⟨cl29, Ar29, q29, Sz29, Nn29, Hs29, Gt29⟩
      refine own_go (B := T27.setTop (mkF m 225 #[.val (.int p1), .val (.int p2), .val (.int p3), .val (.int p4), .val (.int x0), .val (.int x1), .val (.int x2), .val (.ref b1), .val (.ref b5), .val (.int (0 : Int32)), .val (.int (1 : Int32)), .val (.ref b5), .val (.ref b1), .val (.ref b22), .val (.ref b22), .val (.int (1 : Int32)), .val (.ref b5), .val (.ref b5)] [(.int x0)])) st29 ?_
      refine own_go (B := T27.setTop (mkF m 233 #[.val (.int p1), .val (.int p2), .val (.int p3), .val (.int p4), .val (.int x0), .val (.int x1), .val (.int x2), .val (.ref b1), .val (.ref b5), .val (.int (0 : Int32)), .val (.int (1 : Int32)), .val (.ref b5), .val (.ref b1), .val (.ref b22), .val (.ref b22), .val (.int (1 : Int32)), .val (.ref b5), .val (.ref b5)] [(.int (1 : Int32)), (.ref b1)])) (fun t k => ?_) ?_
      · show Steps p.tables e below (T27.setTop (mkF m 225 #[.val (.int p1), .val (.int p2), .val (.int p3), .val (.int p4), .val (.int x0), .val (.int x1), .val (.int x2), .val (.ref b1), .val (.ref b5), .val (.int (0 : Int32)), .val (.int (1 : Int32)), .val (.ref b5), .val (.ref b1), .val (.ref b22), .val (.ref b22), .val (.int (1 : Int32)), .val (.ref b5), .val (.ref b5)] [(.int x0)])) _
        refine XS.iload X27.here hx rfl (hb hby at_225) rfl ?_
        show Steps p.tables e below (T27.setTop (mkF m 227 #[.val (.int p1), .val (.int p2), .val (.int p3), .val (.int p4), .val (.int x0), .val (.int x1), .val (.int x2), .val (.ref b1), .val (.ref b5), .val (.int (0 : Int32)), .val (.int (1 : Int32)), .val (.ref b5), .val (.ref b1), .val (.ref b22), .val (.ref b22), .val (.int (1 : Int32)), .val (.ref b5), .val (.ref b5)] [(.int x0), (.int x0)])) _
        refine XS.icmpNo X27.here hx rfl (hb hby at_227) rfl (teq rfl).2 ?_
        show Steps p.tables e below (T27.setTop (mkF m 230 #[.val (.int p1), .val (.int p2), .val (.int p3), .val (.int p4), .val (.int x0), .val (.int x1), .val (.int x2), .val (.ref b1), .val (.ref b5), .val (.int (0 : Int32)), .val (.int (1 : Int32)), .val (.ref b5), .val (.ref b1), .val (.ref b22), .val (.ref b22), .val (.int (1 : Int32)), .val (.ref b5), .val (.ref b5)] [])) _
        refine XS.aload X27.here hx rfl (hb hby at_230) rfl rfl ?_
        show Steps p.tables e below (T27.setTop (mkF m 232 #[.val (.int p1), .val (.int p2), .val (.int p3), .val (.int p4), .val (.int x0), .val (.int x1), .val (.int x2), .val (.ref b1), .val (.ref b5), .val (.int (0 : Int32)), .val (.int (1 : Int32)), .val (.ref b5), .val (.ref b1), .val (.ref b22), .val (.ref b22), .val (.int (1 : Int32)), .val (.ref b5), .val (.ref b5)] [(.ref b1)])) _
        refine XS.iconst X27.here hx rfl (hb hby at_232) ?_
        show Steps p.tables e below (T27.setTop (mkF m 233 #[.val (.int p1), .val (.int p2), .val (.int p3), .val (.int p4), .val (.int x0), .val (.int x1), .val (.int x2), .val (.ref b1), .val (.ref b5), .val (.int (0 : Int32)), .val (.int (1 : Int32)), .val (.ref b5), .val (.ref b1), .val (.ref b22), .val (.ref b22), .val (.int (1 : Int32)), .val (.ref b5), .val (.ref b5)] [(.int (1 : Int32)), (.ref b1)])) _
        exact k
      obtain ⟨cl30, Ar30, q30, Sz30, Nn30, Hs30, Gt30⟩ := V29
      have hin30 : ¬ ((1 : Int32) < 0 ∨ cl30.slots.size ≤ ((1 : Int32)).toNatClampNeg) := inb_of Sz30 ⟨by decide, by decide⟩
      have hat30 : cl30.slots[((1 : Int32)).toNatClampNeg]? = some (.int x1) := Hs30.at hin30 rfl
      have st30 := X27.caload hx (j := (1 : Int32)) (v := (.int x1)) (by rw [e27]; exact Ar30.1) (State.isArrayOf_alike hZ.alike Ar30.2.1) Ar30.2.2 hin30 hat30 (g := (mkF m 233 #[.val (.int p1), .val (.int p2), .val (.int p3), .val (.int p4), .val (.int x0), .val (.int x1), .val (.int x2), .val (.ref b1), .val (.ref b5), .val (.int (0 : Int32)), .val (.int (1 : Int32)), .val (.ref b5), .val (.ref b1), .val (.ref b22), .val (.ref b22), .val (.int (1 : Int32)), .val (.ref b5), .val (.ref b5)] [(.int (1 : Int32)), (.ref b1)])) rfl rfl (hb hby at_233)
      have V30 : Arv Z T25.heap b1 k1 .char (3 : Int32) [(.int x0), (.int x1), (.int x2)] (.int (0 : Int32)) := ⟨cl30, Ar30, q30, Sz30, Nn30, Hs30, Gt30⟩
      refine own_go (B := T27.setTop (mkF m 234 #[.val (.int p1), .val (.int p2), .val (.int p3), .val (.int p4), .val (.int x0), .val (.int x1), .val (.int x2), .val (.ref b1), .val (.ref b5), .val (.int (0 : Int32)), .val (.int (1 : Int32)), .val (.ref b5), .val (.ref b1), .val (.ref b22), .val (.ref b22), .val (.int (1 : Int32)), .val (.ref b5), .val (.ref b5)] [(.int x1)])) st30 ?_
      refine own_go (B := T27.setTop (mkF m 242 #[.val (.int p1), .val (.int p2), .val (.int p3), .val (.int p4), .val (.int x0), .val (.int x1), .val (.int x2), .val (.ref b1), .val (.ref b5), .val (.int (0 : Int32)), .val (.int (1 : Int32)), .val (.ref b5), .val (.ref b1), .val (.ref b22), .val (.ref b22), .val (.int (1 : Int32)), .val (.ref b5), .val (.ref b5)] [(.int (2 : Int32)), (.ref b1)])) (fun t k => ?_) ?_
      · show Steps p.tables e below (T27.setTop (mkF m 234 #[.val (.int p1), .val (.int p2), .val (.int p3), .val (.int p4), .val (.int x0), .val (.int x1), .val (.int x2), .val (.ref b1), .val (.ref b5), .val (.int (0 : Int32)), .val (.int (1 : Int32)), .val (.ref b5), .val (.ref b1), .val (.ref b22), .val (.ref b22), .val (.int (1 : Int32)), .val (.ref b5), .val (.ref b5)] [(.int x1)])) _
        refine XS.iload X27.here hx rfl (hb hby at_234) rfl ?_
        show Steps p.tables e below (T27.setTop (mkF m 236 #[.val (.int p1), .val (.int p2), .val (.int p3), .val (.int p4), .val (.int x0), .val (.int x1), .val (.int x2), .val (.ref b1), .val (.ref b5), .val (.int (0 : Int32)), .val (.int (1 : Int32)), .val (.ref b5), .val (.ref b1), .val (.ref b22), .val (.ref b22), .val (.int (1 : Int32)), .val (.ref b5), .val (.ref b5)] [(.int x1), (.int x1)])) _
        refine XS.icmpNo X27.here hx rfl (hb hby at_236) rfl (teq rfl).2 ?_
        show Steps p.tables e below (T27.setTop (mkF m 239 #[.val (.int p1), .val (.int p2), .val (.int p3), .val (.int p4), .val (.int x0), .val (.int x1), .val (.int x2), .val (.ref b1), .val (.ref b5), .val (.int (0 : Int32)), .val (.int (1 : Int32)), .val (.ref b5), .val (.ref b1), .val (.ref b22), .val (.ref b22), .val (.int (1 : Int32)), .val (.ref b5), .val (.ref b5)] [])) _
        refine XS.aload X27.here hx rfl (hb hby at_239) rfl rfl ?_
        show Steps p.tables e below (T27.setTop (mkF m 241 #[.val (.int p1), .val (.int p2), .val (.int p3), .val (.int p4), .val (.int x0), .val (.int x1), .val (.int x2), .val (.ref b1), .val (.ref b5), .val (.int (0 : Int32)), .val (.int (1 : Int32)), .val (.ref b5), .val (.ref b1), .val (.ref b22), .val (.ref b22), .val (.int (1 : Int32)), .val (.ref b5), .val (.ref b5)] [(.ref b1)])) _
        refine XS.iconst X27.here hx rfl (hb hby at_241) ?_
        show Steps p.tables e below (T27.setTop (mkF m 242 #[.val (.int p1), .val (.int p2), .val (.int p3), .val (.int p4), .val (.int x0), .val (.int x1), .val (.int x2), .val (.ref b1), .val (.ref b5), .val (.int (0 : Int32)), .val (.int (1 : Int32)), .val (.ref b5), .val (.ref b1), .val (.ref b22), .val (.ref b22), .val (.int (1 : Int32)), .val (.ref b5), .val (.ref b5)] [(.int (2 : Int32)), (.ref b1)])) _
        exact k
      obtain ⟨cl31, Ar31, q31, Sz31, Nn31, Hs31, Gt31⟩ := V30
      have hin31 : ¬ ((2 : Int32) < 0 ∨ cl31.slots.size ≤ ((2 : Int32)).toNatClampNeg) := inb_of Sz31 ⟨by decide, by decide⟩
      have hat31 : cl31.slots[((2 : Int32)).toNatClampNeg]? = some (.int x2) := Hs31.at hin31 rfl
      have st31 := X27.caload hx (j := (2 : Int32)) (v := (.int x2)) (by rw [e27]; exact Ar31.1) (State.isArrayOf_alike hZ.alike Ar31.2.1) Ar31.2.2 hin31 hat31 (g := (mkF m 242 #[.val (.int p1), .val (.int p2), .val (.int p3), .val (.int p4), .val (.int x0), .val (.int x1), .val (.int x2), .val (.ref b1), .val (.ref b5), .val (.int (0 : Int32)), .val (.int (1 : Int32)), .val (.ref b5), .val (.ref b1), .val (.ref b22), .val (.ref b22), .val (.int (1 : Int32)), .val (.ref b5), .val (.ref b5)] [(.int (2 : Int32)), (.ref b1)])) rfl rfl (hb hby at_242)
      have V31 : Arv Z T25.heap b1 k1 .char (3 : Int32) [(.int x0), (.int x1), (.int x2)] (.int (0 : Int32)) := ⟨cl31, Ar31, q31, Sz31, Nn31, Hs31, Gt31⟩
      refine own_go (B := T27.setTop (mkF m 243 #[.val (.int p1), .val (.int p2), .val (.int p3), .val (.int p4), .val (.int x0), .val (.int x1), .val (.int x2), .val (.ref b1), .val (.ref b5), .val (.int (0 : Int32)), .val (.int (1 : Int32)), .val (.ref b5), .val (.ref b1), .val (.ref b22), .val (.ref b22), .val (.int (1 : Int32)), .val (.ref b5), .val (.ref b5)] [(.int x2)])) st31 ?_
      refine own_go (B := T27.setTop (mkF m 262 #[.val (.int p1), .val (.int p2), .val (.int p3), .val (.int p4), .val (.int x0), .val (.int x1), .val (.int x2), .val (.ref b1), .val (.ref b5), .val (.int (0 : Int32)), .val (.int (1 : Int32)), .val (.ref b5), .val (.ref b1), .val (.ref b22), .val (.ref b22), .val (.int (1 : Int32)), .val (.ref b5), .val (.ref b5)] [(.ref b5)])) (fun t k => ?_) ?_
      · show Steps p.tables e below (T27.setTop (mkF m 243 #[.val (.int p1), .val (.int p2), .val (.int p3), .val (.int p4), .val (.int x0), .val (.int x1), .val (.int x2), .val (.ref b1), .val (.ref b5), .val (.int (0 : Int32)), .val (.int (1 : Int32)), .val (.ref b5), .val (.ref b1), .val (.ref b22), .val (.ref b22), .val (.int (1 : Int32)), .val (.ref b5), .val (.ref b5)] [(.int x2)])) _
        refine XS.iload X27.here hx rfl (hb hby at_243) rfl ?_
        show Steps p.tables e below (T27.setTop (mkF m 245 #[.val (.int p1), .val (.int p2), .val (.int p3), .val (.int p4), .val (.int x0), .val (.int x1), .val (.int x2), .val (.ref b1), .val (.ref b5), .val (.int (0 : Int32)), .val (.int (1 : Int32)), .val (.ref b5), .val (.ref b1), .val (.ref b22), .val (.ref b22), .val (.int (1 : Int32)), .val (.ref b5), .val (.ref b5)] [(.int x2), (.int x2)])) _
        refine XS.icmpNo X27.here hx rfl (hb hby at_245) rfl (teq rfl).2 ?_
        show Steps p.tables e below (T27.setTop (mkF m 248 #[.val (.int p1), .val (.int p2), .val (.int p3), .val (.int p4), .val (.int x0), .val (.int x1), .val (.int x2), .val (.ref b1), .val (.ref b5), .val (.int (0 : Int32)), .val (.int (1 : Int32)), .val (.ref b5), .val (.ref b1), .val (.ref b22), .val (.ref b22), .val (.int (1 : Int32)), .val (.ref b5), .val (.ref b5)] [])) _
        refine XS.iconst X27.here hx rfl (hb hby at_248) ?_
        show Steps p.tables e below (T27.setTop (mkF m 249 #[.val (.int p1), .val (.int p2), .val (.int p3), .val (.int p4), .val (.int x0), .val (.int x1), .val (.int x2), .val (.ref b1), .val (.ref b5), .val (.int (0 : Int32)), .val (.int (1 : Int32)), .val (.ref b5), .val (.ref b1), .val (.ref b22), .val (.ref b22), .val (.int (1 : Int32)), .val (.ref b5), .val (.ref b5)] [(.int (1 : Int32))])) _
        refine XS.goto X27.here hx rfl (pc0 := 249) (pc' := 253) rfl (hb hby at_249) (by decide) (by decide) ?_
        show Steps p.tables e below (T27.setTop (mkF m 253 #[.val (.int p1), .val (.int p2), .val (.int p3), .val (.int p4), .val (.int x0), .val (.int x1), .val (.int x2), .val (.ref b1), .val (.ref b5), .val (.int (0 : Int32)), .val (.int (1 : Int32)), .val (.ref b5), .val (.ref b1), .val (.ref b22), .val (.ref b22), .val (.int (1 : Int32)), .val (.ref b5), .val (.ref b5)] [(.int (1 : Int32))])) _
        refine XS.istore X27.here hx rfl (hb hby at_253) rfl (l' := #[.val (.int p1), .val (.int p2), .val (.int p3), .val (.int p4), .val (.int x0), .val (.int x1), .val (.int x2), .val (.ref b1), .val (.ref b5), .val (.int (0 : Int32)), .val (.int (1 : Int32)), .val (.ref b5), .val (.ref b1), .val (.ref b22), .val (.ref b22), .val (.int (1 : Int32)), .val (.ref b5), .val (.ref b5)]) rfl ?_
        show Steps p.tables e below (T27.setTop (mkF m 255 #[.val (.int p1), .val (.int p2), .val (.int p3), .val (.int p4), .val (.int x0), .val (.int x1), .val (.int x2), .val (.ref b1), .val (.ref b5), .val (.int (0 : Int32)), .val (.int (1 : Int32)), .val (.ref b5), .val (.ref b1), .val (.ref b22), .val (.ref b22), .val (.int (1 : Int32)), .val (.ref b5), .val (.ref b5)] [])) _
        refine XS.iload X27.here hx rfl (hb hby at_255) rfl ?_
        show Steps p.tables e below (T27.setTop (mkF m 257 #[.val (.int p1), .val (.int p2), .val (.int p3), .val (.int p4), .val (.int x0), .val (.int x1), .val (.int x2), .val (.ref b1), .val (.ref b5), .val (.int (0 : Int32)), .val (.int (1 : Int32)), .val (.ref b5), .val (.ref b1), .val (.ref b22), .val (.ref b22), .val (.int (1 : Int32)), .val (.ref b5), .val (.ref b5)] [(.int (1 : Int32))])) _
        refine XS.ifNo X27.here hx rfl (hb hby at_257) rfl ((if0 _ _).trans (feq (by decide)).1) ?_
        show Steps p.tables e below (T27.setTop (mkF m 260 #[.val (.int p1), .val (.int p2), .val (.int p3), .val (.int p4), .val (.int x0), .val (.int x1), .val (.int x2), .val (.ref b1), .val (.ref b5), .val (.int (0 : Int32)), .val (.int (1 : Int32)), .val (.ref b5), .val (.ref b1), .val (.ref b22), .val (.ref b22), .val (.int (1 : Int32)), .val (.ref b5), .val (.ref b5)] [])) _
        refine XS.aload X27.here hx rfl (hb hby at_260) rfl rfl ?_
        show Steps p.tables e below (T27.setTop (mkF m 262 #[.val (.int p1), .val (.int p2), .val (.int p3), .val (.int p4), .val (.int x0), .val (.int x1), .val (.int x2), .val (.ref b1), .val (.ref b5), .val (.int (0 : Int32)), .val (.int (1 : Int32)), .val (.ref b5), .val (.ref b1), .val (.ref b22), .val (.ref b22), .val (.int (1 : Int32)), .val (.ref b5), .val (.ref b5)] [(.ref b5)])) _
        exact k
      have st32 : ∀ target, Steps p.tables e below (T27.setTop (mkF m 263 #[.val (.int p1), .val (.int p2), .val (.int p3), .val (.int p4), .val (.int x0), .val (.int x1), .val (.int x2), .val (.ref b1), .val (.ref b5), .val (.int (0 : Int32)), .val (.int (1 : Int32)), .val (.ref b5), .val (.ref b1), .val (.ref b22), .val (.ref b22), .val (.int (1 : Int32)), .val (.ref b5), .val (.ref b5)] [(.int (0 : Int32))])) target → Steps p.tables e below (T27.setTop (mkF m 262 #[.val (.int p1), .val (.int p2), .val (.int p3), .val (.int p4), .val (.int x0), .val (.int x1), .val (.int x2), .val (.ref b1), .val (.ref b5), .val (.int (0 : Int32)), .val (.int (1 : Int32)), .val (.ref b5), .val (.ref b1), .val (.ref b22), .val (.ref b22), .val (.int (1 : Int32)), .val (.ref b5), .val (.ref b5)] [(.ref b5)])) target := by
        obtain ⟨cl, Ar, q, Sz, Nn, Hs, Gt⟩ := V5
        intro target kt
        refine X27.arraylength hx (by rw [e27]; exact Ar.1) (State.isArrayOf_alike hZ.alike Ar.2.1) (g := (mkF m 262 #[.val (.int p1), .val (.int p2), .val (.int p3), .val (.int p4), .val (.int x0), .val (.int x1), .val (.int x2), .val (.ref b1), .val (.ref b5), .val (.int (0 : Int32)), .val (.int (1 : Int32)), .val (.ref b5), .val (.ref b1), .val (.ref b22), .val (.ref b22), .val (.int (1 : Int32)), .val (.ref b5), .val (.ref b5)] [(.ref b5)])) rfl rfl (hb hby at_262) _ ?_
        rw [len_of Sz Nn]
        exact kt
      refine own_go (B := T27.setTop (mkF m 263 #[.val (.int p1), .val (.int p2), .val (.int p3), .val (.int p4), .val (.int x0), .val (.int x1), .val (.int x2), .val (.ref b1), .val (.ref b5), .val (.int (0 : Int32)), .val (.int (1 : Int32)), .val (.ref b5), .val (.ref b1), .val (.ref b22), .val (.ref b22), .val (.int (1 : Int32)), .val (.ref b5), .val (.ref b5)] [(.int (0 : Int32))])) st32 ?_
      refine own_go (B := T27.setTop (mkF m 280 #[.val (.int p1), .val (.int p2), .val (.int p3), .val (.int p4), .val (.int x0), .val (.int x1), .val (.int x2), .val (.ref b1), .val (.ref b5), .val (.int (0 : Int32)), .val (.int (1 : Int32)), .val (.ref b5), .val (.ref b1), .val (.ref b22), .val (.ref b22), .val (.int (1 : Int32)), .val (.ref b5), .val (.ref b5)] [(.ref b22)])) (fun t k => ?_) ?_
      · show Steps p.tables e below (T27.setTop (mkF m 263 #[.val (.int p1), .val (.int p2), .val (.int p3), .val (.int p4), .val (.int x0), .val (.int x1), .val (.int x2), .val (.ref b1), .val (.ref b5), .val (.int (0 : Int32)), .val (.int (1 : Int32)), .val (.ref b5), .val (.ref b1), .val (.ref b22), .val (.ref b22), .val (.int (1 : Int32)), .val (.ref b5), .val (.ref b5)] [(.int (0 : Int32))])) _
        refine XS.ifNo X27.here hx rfl (hb hby at_263) rfl ((if0 _ _).trans (teq (by decide)).2) ?_
        show Steps p.tables e below (T27.setTop (mkF m 266 #[.val (.int p1), .val (.int p2), .val (.int p3), .val (.int p4), .val (.int x0), .val (.int x1), .val (.int x2), .val (.ref b1), .val (.ref b5), .val (.int (0 : Int32)), .val (.int (1 : Int32)), .val (.ref b5), .val (.ref b1), .val (.ref b22), .val (.ref b22), .val (.int (1 : Int32)), .val (.ref b5), .val (.ref b5)] [])) _
        refine XS.iconst X27.here hx rfl (hb hby at_266) ?_
        show Steps p.tables e below (T27.setTop (mkF m 267 #[.val (.int p1), .val (.int p2), .val (.int p3), .val (.int p4), .val (.int x0), .val (.int x1), .val (.int x2), .val (.ref b1), .val (.ref b5), .val (.int (0 : Int32)), .val (.int (1 : Int32)), .val (.ref b5), .val (.ref b1), .val (.ref b22), .val (.ref b22), .val (.int (1 : Int32)), .val (.ref b5), .val (.ref b5)] [(.int (1 : Int32))])) _
        refine XS.goto X27.here hx rfl (pc0 := 267) (pc' := 271) rfl (hb hby at_267) (by decide) (by decide) ?_
        show Steps p.tables e below (T27.setTop (mkF m 271 #[.val (.int p1), .val (.int p2), .val (.int p3), .val (.int p4), .val (.int x0), .val (.int x1), .val (.int x2), .val (.ref b1), .val (.ref b5), .val (.int (0 : Int32)), .val (.int (1 : Int32)), .val (.ref b5), .val (.ref b1), .val (.ref b22), .val (.ref b22), .val (.int (1 : Int32)), .val (.ref b5), .val (.ref b5)] [(.int (1 : Int32))])) _
        refine XS.istore X27.here hx rfl (hb hby at_271) rfl (l' := #[.val (.int p1), .val (.int p2), .val (.int p3), .val (.int p4), .val (.int x0), .val (.int x1), .val (.int x2), .val (.ref b1), .val (.ref b5), .val (.int (0 : Int32)), .val (.int (1 : Int32)), .val (.ref b5), .val (.ref b1), .val (.ref b22), .val (.ref b22), .val (.int (1 : Int32)), .val (.ref b5), .val (.ref b5)]) rfl ?_
        show Steps p.tables e below (T27.setTop (mkF m 273 #[.val (.int p1), .val (.int p2), .val (.int p3), .val (.int p4), .val (.int x0), .val (.int x1), .val (.int x2), .val (.ref b1), .val (.ref b5), .val (.int (0 : Int32)), .val (.int (1 : Int32)), .val (.ref b5), .val (.ref b1), .val (.ref b22), .val (.ref b22), .val (.int (1 : Int32)), .val (.ref b5), .val (.ref b5)] [])) _
        refine XS.iload X27.here hx rfl (hb hby at_273) rfl ?_
        show Steps p.tables e below (T27.setTop (mkF m 275 #[.val (.int p1), .val (.int p2), .val (.int p3), .val (.int p4), .val (.int x0), .val (.int x1), .val (.int x2), .val (.ref b1), .val (.ref b5), .val (.int (0 : Int32)), .val (.int (1 : Int32)), .val (.ref b5), .val (.ref b1), .val (.ref b22), .val (.ref b22), .val (.int (1 : Int32)), .val (.ref b5), .val (.ref b5)] [(.int (1 : Int32))])) _
        refine XS.ifNo X27.here hx rfl (hb hby at_275) rfl ((if0 _ _).trans (feq (by decide)).1) ?_
        show Steps p.tables e below (T27.setTop (mkF m 278 #[.val (.int p1), .val (.int p2), .val (.int p3), .val (.int p4), .val (.int x0), .val (.int x1), .val (.int x2), .val (.ref b1), .val (.ref b5), .val (.int (0 : Int32)), .val (.int (1 : Int32)), .val (.ref b5), .val (.ref b1), .val (.ref b22), .val (.ref b22), .val (.int (1 : Int32)), .val (.ref b5), .val (.ref b5)] [])) _
        refine XS.aload X27.here hx rfl (hb hby at_278) rfl rfl ?_
        show Steps p.tables e below (T27.setTop (mkF m 280 #[.val (.int p1), .val (.int p2), .val (.int p3), .val (.int p4), .val (.int x0), .val (.int x1), .val (.int x2), .val (.ref b1), .val (.ref b5), .val (.int (0 : Int32)), .val (.int (1 : Int32)), .val (.ref b5), .val (.ref b1), .val (.ref b22), .val (.ref b22), .val (.int (1 : Int32)), .val (.ref b5), .val (.ref b5)] [(.ref b22)])) _
        exact k
      -- pc 280: com/example/fixity/fixity/engine/AccountRequest.role
      obtain ⟨cq33, kq33, q33a, q33b, q33c⟩ := isOf hZ e27 A22
      obtain ⟨_, _, ⟨T33, L33, k33, n33⟩, -, X33, ⟨Lc33, hQ33, l33, y33, z33⟩, st33⟩ := X27.virtualBack hx (y := (⟨"com/example/fixity/fixity/engine/AccountRequest", "role", "()Ljava/util/Optional;"⟩ : MethodName)) (z := (⟨"com/example/fixity/fixity/engine/AccountRequest", "role", "()Ljava/util/Optional;"⟩ : MethodName)) hown (mvT hZ (hw _ (List.mem_of_getElem? (i := 58) rfl))) (mvT hZ (hw _ (List.mem_of_getElem? (i := 59) rfl))) (notFace_of_selects (args := #[]) (mvT hZ (hw _ (List.mem_of_getElem? (i := 61) rfl)))) (mvT hZ (hw _ (List.mem_of_getElem? (i := 61) rfl))) (mvT hZ (hw _ (List.mem_of_getElem? (i := 60) rfl))) (by decide) (backOf (W := 0) (rmG0role l Z a0 hw [] b22 wE T25.heap n0 O Gq24_2 S_E) hZ (hw _ (List.mem_of_getElem? (i := 62) rfl)) (hw _ (List.mem_of_getElem? (i := 4) rfl)) (by decide) (by decide)) q33a q33c (g := (mkF m 280 #[.val (.int p1), .val (.int p2), .val (.int p3), .val (.int p4), .val (.int x0), .val (.int x1), .val (.int x2), .val (.ref b1), .val (.ref b5), .val (.int (0 : Int32)), .val (.int (1 : Int32)), .val (.ref b5), .val (.ref b1), .val (.ref b22), .val (.ref b22), .val (.int (1 : Int32)), .val (.ref b5), .val (.ref b5)] [(.ref b22)])) rfl (by rw [hml]; rfl) (Steps.refl _) (argsL := []) (rest := []) (lenOf pd_5 rfl) rfl (by show 2 * 0 + _ ≤ _; exact Nat.le_of_eq rfl) (hb hby at_280) (fun _ hWm => ⟨rfl, e27, (by decide : 6 + 0 ≤ _), (by decide : 47 + 0 ≤ _)⟩)
      dsimp only [Pt.U, Pt.locs, Pt.cells, Pt.slots] at X33 l33 y33 z33 st33 hQ33
      subst l33 y33 z33
      obtain ⟨rfl, Nq33, Kq33⟩ := hQ33
      replace N := Fr.app N Nq33
      refine own_go (B := T33.setTop (mkF m 283 #[.val (.int p1), .val (.int p2), .val (.int p3), .val (.int p4), .val (.int x0), .val (.int x1), .val (.int x2), .val (.ref b1), .val (.ref b5), .val (.int (0 : Int32)), .val (.int (1 : Int32)), .val (.ref b5), .val (.ref b1), .val (.ref b22), .val (.ref b22), .val (.int (1 : Int32)), .val (.ref b5), .val (.ref b5)] [(.ref wE)])) (fun t k => st33.trans k) ?_
      refine own_go (B := T33.setTop (mkF m 284 #[.val (.int p1), .val (.int p2), .val (.int p3), .val (.int p4), .val (.int x0), .val (.int x1), .val (.int x2), .val (.ref b1), .val (.ref b5), .val (.int (0 : Int32)), .val (.int (1 : Int32)), .val (.ref b5), .val (.ref b1), .val (.ref b22), .val (.ref b22), .val (.int (1 : Int32)), .val (.ref b5), .val (.ref b5)] [.null, (.ref wE)])) (fun t k => ?_) ?_
      · show Steps p.tables e below (T33.setTop (mkF m 283 #[.val (.int p1), .val (.int p2), .val (.int p3), .val (.int p4), .val (.int x0), .val (.int x1), .val (.int x2), .val (.ref b1), .val (.ref b5), .val (.int (0 : Int32)), .val (.int (1 : Int32)), .val (.ref b5), .val (.ref b1), .val (.ref b22), .val (.ref b22), .val (.int (1 : Int32)), .val (.ref b5), .val (.ref b5)] [(.ref wE)])) _
        refine XS.aconstNull X33.here hx rfl (hb hby at_283) ?_
        show Steps p.tables e below (T33.setTop (mkF m 284 #[.val (.int p1), .val (.int p2), .val (.int p3), .val (.int p4), .val (.int x0), .val (.int x1), .val (.int x2), .val (.ref b1), .val (.ref b5), .val (.int (0 : Int32)), .val (.int (1 : Int32)), .val (.ref b5), .val (.ref b1), .val (.ref b22), .val (.ref b22), .val (.int (1 : Int32)), .val (.ref b5), .val (.ref b5)] [.null, (.ref wE)])) _
        exact k
      -- pc 284: java/util/Optional.orElse
      obtain ⟨cq34, kq34, q34a, q34b, q34c⟩ := isOf hZ Kq33 (E_E.ext O.2)
      obtain ⟨_, _, ⟨T34, L34, k34, n34⟩, -, X34, ⟨Lc34, hQ34, l34, y34, z34⟩, st34⟩ := X33.virtualBack hx (y := (⟨"java/util/Optional", "orElse", "(Ljava/lang/Object;)Ljava/lang/Object;"⟩ : MethodName)) (z := (⟨"java/util/Optional", "orElse", "(Ljava/lang/Object;)Ljava/lang/Object;"⟩ : MethodName)) hown (mvT hZ (hw _ (List.mem_of_getElem? (i := 52) rfl))) (mvT hZ (hw _ (List.mem_of_getElem? (i := 53) rfl))) (notFace_of_selects (args := #[]) (mvT hZ (hw _ (List.mem_of_getElem? (i := 55) rfl)))) (mvT hZ (hw _ (List.mem_of_getElem? (i := 55) rfl))) (mvT hZ (hw _ (List.mem_of_getElem? (i := 54) rfl))) (by decide) (backOf (W := 0) (rmOE0 l Z a0 hw [] wE T25.heap n0 O (F_E.ext O.2)) hZ (hw _ (List.mem_of_getElem? (i := 56) rfl)) (hw _ (List.mem_of_getElem? (i := 41) rfl)) (by decide) (by decide)) q34a q34c (g := (mkF m 284 #[.val (.int p1), .val (.int p2), .val (.int p3), .val (.int p4), .val (.int x0), .val (.int x1), .val (.int x2), .val (.ref b1), .val (.ref b5), .val (.int (0 : Int32)), .val (.int (1 : Int32)), .val (.ref b5), .val (.ref b1), .val (.ref b22), .val (.ref b22), .val (.int (1 : Int32)), .val (.ref b5), .val (.ref b5)] [.null, (.ref wE)])) rfl (by rw [hml]; rfl) (Steps.refl _) (argsL := [.null]) (rest := []) (lenOf pd_6 rfl) rfl (by show 2 * 0 + _ ≤ _; exact Nat.le_of_eq rfl) (hb hby at_284) (fun _ hWm => ⟨rfl, Kq33, (by decide : 6 + 0 ≤ _), (by decide : 47 + 0 ≤ _)⟩)
      dsimp only [Pt.U, Pt.locs, Pt.cells, Pt.slots] at X34 l34 y34 z34 st34 hQ34
      subst l34 y34 z34
      obtain ⟨rfl, Nq34, Kq34⟩ := hQ34
      replace N := Fr.app N Nq34
      refine own_go (B := T34.setTop (mkF m 287 #[.val (.int p1), .val (.int p2), .val (.int p3), .val (.int p4), .val (.int x0), .val (.int x1), .val (.int x2), .val (.ref b1), .val (.ref b5), .val (.int (0 : Int32)), .val (.int (1 : Int32)), .val (.ref b5), .val (.ref b1), .val (.ref b22), .val (.ref b22), .val (.int (1 : Int32)), .val (.ref b5), .val (.ref b5)] [.null])) (fun t k => st34.trans k) ?_
      refine own_go (B := T34.setTop (mkF m 304 #[.val (.int p1), .val (.int p2), .val (.int p3), .val (.int p4), .val (.int x0), .val (.int x1), .val (.int x2), .val (.ref b1), .val (.ref b5), .val (.int (0 : Int32)), .val (.int (1 : Int32)), .val (.ref b5), .val (.ref b1), .val (.ref b22), .val (.ref b22), .val (.int (1 : Int32)), .val (.ref b5), .val (.ref b5)] [(.ref b22)])) (fun t k => ?_) ?_
      · show Steps p.tables e below (T34.setTop (mkF m 287 #[.val (.int p1), .val (.int p2), .val (.int p3), .val (.int p4), .val (.int x0), .val (.int x1), .val (.int x2), .val (.ref b1), .val (.ref b5), .val (.int (0 : Int32)), .val (.int (1 : Int32)), .val (.ref b5), .val (.ref b1), .val (.ref b22), .val (.ref b22), .val (.int (1 : Int32)), .val (.ref b5), .val (.ref b5)] [.null])) _
        refine XT.ifnonnullNo X34.here hx rfl (hb hby at_287) rfl ?_
        show Steps p.tables e below (T34.setTop (mkF m 290 #[.val (.int p1), .val (.int p2), .val (.int p3), .val (.int p4), .val (.int x0), .val (.int x1), .val (.int x2), .val (.ref b1), .val (.ref b5), .val (.int (0 : Int32)), .val (.int (1 : Int32)), .val (.ref b5), .val (.ref b1), .val (.ref b22), .val (.ref b22), .val (.int (1 : Int32)), .val (.ref b5), .val (.ref b5)] [])) _
        refine XS.iconst X34.here hx rfl (hb hby at_290) ?_
        show Steps p.tables e below (T34.setTop (mkF m 291 #[.val (.int p1), .val (.int p2), .val (.int p3), .val (.int p4), .val (.int x0), .val (.int x1), .val (.int x2), .val (.ref b1), .val (.ref b5), .val (.int (0 : Int32)), .val (.int (1 : Int32)), .val (.ref b5), .val (.ref b1), .val (.ref b22), .val (.ref b22), .val (.int (1 : Int32)), .val (.ref b5), .val (.ref b5)] [(.int (1 : Int32))])) _
        refine XS.goto X34.here hx rfl (pc0 := 291) (pc' := 295) rfl (hb hby at_291) (by decide) (by decide) ?_
        show Steps p.tables e below (T34.setTop (mkF m 295 #[.val (.int p1), .val (.int p2), .val (.int p3), .val (.int p4), .val (.int x0), .val (.int x1), .val (.int x2), .val (.ref b1), .val (.ref b5), .val (.int (0 : Int32)), .val (.int (1 : Int32)), .val (.ref b5), .val (.ref b1), .val (.ref b22), .val (.ref b22), .val (.int (1 : Int32)), .val (.ref b5), .val (.ref b5)] [(.int (1 : Int32))])) _
        refine XS.istore X34.here hx rfl (hb hby at_295) rfl (l' := #[.val (.int p1), .val (.int p2), .val (.int p3), .val (.int p4), .val (.int x0), .val (.int x1), .val (.int x2), .val (.ref b1), .val (.ref b5), .val (.int (0 : Int32)), .val (.int (1 : Int32)), .val (.ref b5), .val (.ref b1), .val (.ref b22), .val (.ref b22), .val (.int (1 : Int32)), .val (.ref b5), .val (.ref b5)]) rfl ?_
        show Steps p.tables e below (T34.setTop (mkF m 297 #[.val (.int p1), .val (.int p2), .val (.int p3), .val (.int p4), .val (.int x0), .val (.int x1), .val (.int x2), .val (.ref b1), .val (.ref b5), .val (.int (0 : Int32)), .val (.int (1 : Int32)), .val (.ref b5), .val (.ref b1), .val (.ref b22), .val (.ref b22), .val (.int (1 : Int32)), .val (.ref b5), .val (.ref b5)] [])) _
        refine XS.iload X34.here hx rfl (hb hby at_297) rfl ?_
        show Steps p.tables e below (T34.setTop (mkF m 299 #[.val (.int p1), .val (.int p2), .val (.int p3), .val (.int p4), .val (.int x0), .val (.int x1), .val (.int x2), .val (.ref b1), .val (.ref b5), .val (.int (0 : Int32)), .val (.int (1 : Int32)), .val (.ref b5), .val (.ref b1), .val (.ref b22), .val (.ref b22), .val (.int (1 : Int32)), .val (.ref b5), .val (.ref b5)] [(.int (1 : Int32))])) _
        refine XS.ifNo X34.here hx rfl (hb hby at_299) rfl ((if0 _ _).trans (feq (by decide)).1) ?_
        show Steps p.tables e below (T34.setTop (mkF m 302 #[.val (.int p1), .val (.int p2), .val (.int p3), .val (.int p4), .val (.int x0), .val (.int x1), .val (.int x2), .val (.ref b1), .val (.ref b5), .val (.int (0 : Int32)), .val (.int (1 : Int32)), .val (.ref b5), .val (.ref b1), .val (.ref b22), .val (.ref b22), .val (.int (1 : Int32)), .val (.ref b5), .val (.ref b5)] [])) _
        refine XS.aload X34.here hx rfl (hb hby at_302) rfl rfl ?_
        show Steps p.tables e below (T34.setTop (mkF m 304 #[.val (.int p1), .val (.int p2), .val (.int p3), .val (.int p4), .val (.int x0), .val (.int x1), .val (.int x2), .val (.ref b1), .val (.ref b5), .val (.int (0 : Int32)), .val (.int (1 : Int32)), .val (.ref b5), .val (.ref b1), .val (.ref b22), .val (.ref b22), .val (.int (1 : Int32)), .val (.ref b5), .val (.ref b5)] [(.ref b22)])) _
        exact k
      -- pc 304: com/example/fixity/fixity/engine/AccountRequest.unreadable
      obtain ⟨cq35, kq35, q35a, q35b, q35c⟩ := isOf hZ Kq34 A22
      obtain ⟨_, _, ⟨T35, L35, k35, n35⟩, -, X35, ⟨Lc35, hQ35, l35, y35, z35⟩, st35⟩ := X34.virtualBack hx (y := (⟨"com/example/fixity/fixity/engine/AccountRequest", "unreadable", "()Ljava/util/Optional;"⟩ : MethodName)) (z := (⟨"com/example/fixity/fixity/engine/AccountRequest", "unreadable", "()Ljava/util/Optional;"⟩ : MethodName)) hown (mvT hZ (hw _ (List.mem_of_getElem? (i := 66) rfl))) (mvT hZ (hw _ (List.mem_of_getElem? (i := 67) rfl))) (notFace_of_selects (args := #[]) (mvT hZ (hw _ (List.mem_of_getElem? (i := 69) rfl)))) (mvT hZ (hw _ (List.mem_of_getElem? (i := 69) rfl))) (mvT hZ (hw _ (List.mem_of_getElem? (i := 68) rfl))) (by decide) (backOf (W := 0) (rmG0unreadable l Z a0 hw [] b22 wE T25.heap n0 O Gq24_1 S_E) hZ (hw _ (List.mem_of_getElem? (i := 70) rfl)) (hw _ (List.mem_of_getElem? (i := 4) rfl)) (by decide) (by decide)) q35a q35c (g := (mkF m 304 #[.val (.int p1), .val (.int p2), .val (.int p3), .val (.int p4), .val (.int x0), .val (.int x1), .val (.int x2), .val (.ref b1), .val (.ref b5), .val (.int (0 : Int32)), .val (.int (1 : Int32)), .val (.ref b5), .val (.ref b1), .val (.ref b22), .val (.ref b22), .val (.int (1 : Int32)), .val (.ref b5), .val (.ref b5)] [(.ref b22)])) rfl (by rw [hml]; rfl) (Steps.refl _) (argsL := []) (rest := []) (lenOf pd_5 rfl) rfl (by show 2 * 0 + _ ≤ _; exact Nat.le_of_eq rfl) (hb hby at_304) (fun _ hWm => ⟨rfl, Kq34, (by decide : 6 + 0 ≤ _), (by decide : 47 + 0 ≤ _)⟩)
      dsimp only [Pt.U, Pt.locs, Pt.cells, Pt.slots] at X35 l35 y35 z35 st35 hQ35
      subst l35 y35 z35
      obtain ⟨rfl, Nq35, Kq35⟩ := hQ35
      replace N := Fr.app N Nq35
      refine own_go (B := T35.setTop (mkF m 307 #[.val (.int p1), .val (.int p2), .val (.int p3), .val (.int p4), .val (.int x0), .val (.int x1), .val (.int x2), .val (.ref b1), .val (.ref b5), .val (.int (0 : Int32)), .val (.int (1 : Int32)), .val (.ref b5), .val (.ref b1), .val (.ref b22), .val (.ref b22), .val (.int (1 : Int32)), .val (.ref b5), .val (.ref b5)] [(.ref wE)])) (fun t k => st35.trans k) ?_
      refine own_go (B := T35.setTop (mkF m 308 #[.val (.int p1), .val (.int p2), .val (.int p3), .val (.int p4), .val (.int x0), .val (.int x1), .val (.int x2), .val (.ref b1), .val (.ref b5), .val (.int (0 : Int32)), .val (.int (1 : Int32)), .val (.ref b5), .val (.ref b1), .val (.ref b22), .val (.ref b22), .val (.int (1 : Int32)), .val (.ref b5), .val (.ref b5)] [.null, (.ref wE)])) (fun t k => ?_) ?_
      · show Steps p.tables e below (T35.setTop (mkF m 307 #[.val (.int p1), .val (.int p2), .val (.int p3), .val (.int p4), .val (.int x0), .val (.int x1), .val (.int x2), .val (.ref b1), .val (.ref b5), .val (.int (0 : Int32)), .val (.int (1 : Int32)), .val (.ref b5), .val (.ref b1), .val (.ref b22), .val (.ref b22), .val (.int (1 : Int32)), .val (.ref b5), .val (.ref b5)] [(.ref wE)])) _
        refine XS.aconstNull X35.here hx rfl (hb hby at_307) ?_
        show Steps p.tables e below (T35.setTop (mkF m 308 #[.val (.int p1), .val (.int p2), .val (.int p3), .val (.int p4), .val (.int x0), .val (.int x1), .val (.int x2), .val (.ref b1), .val (.ref b5), .val (.int (0 : Int32)), .val (.int (1 : Int32)), .val (.ref b5), .val (.ref b1), .val (.ref b22), .val (.ref b22), .val (.int (1 : Int32)), .val (.ref b5), .val (.ref b5)] [.null, (.ref wE)])) _
        exact k
      -- pc 308: java/util/Optional.orElse
      obtain ⟨cq36, kq36, q36a, q36b, q36c⟩ := isOf hZ Kq35 (E_E.ext O.2)
      obtain ⟨_, _, ⟨T36, L36, k36, n36⟩, -, X36, ⟨Lc36, hQ36, l36, y36, z36⟩, st36⟩ := X35.virtualBack hx (y := (⟨"java/util/Optional", "orElse", "(Ljava/lang/Object;)Ljava/lang/Object;"⟩ : MethodName)) (z := (⟨"java/util/Optional", "orElse", "(Ljava/lang/Object;)Ljava/lang/Object;"⟩ : MethodName)) hown (mvT hZ (hw _ (List.mem_of_getElem? (i := 52) rfl))) (mvT hZ (hw _ (List.mem_of_getElem? (i := 53) rfl))) (notFace_of_selects (args := #[]) (mvT hZ (hw _ (List.mem_of_getElem? (i := 55) rfl)))) (mvT hZ (hw _ (List.mem_of_getElem? (i := 55) rfl))) (mvT hZ (hw _ (List.mem_of_getElem? (i := 54) rfl))) (by decide) (backOf (W := 0) (rmOE0 l Z a0 hw [] wE T25.heap n0 O (F_E.ext O.2)) hZ (hw _ (List.mem_of_getElem? (i := 56) rfl)) (hw _ (List.mem_of_getElem? (i := 41) rfl)) (by decide) (by decide)) q36a q36c (g := (mkF m 308 #[.val (.int p1), .val (.int p2), .val (.int p3), .val (.int p4), .val (.int x0), .val (.int x1), .val (.int x2), .val (.ref b1), .val (.ref b5), .val (.int (0 : Int32)), .val (.int (1 : Int32)), .val (.ref b5), .val (.ref b1), .val (.ref b22), .val (.ref b22), .val (.int (1 : Int32)), .val (.ref b5), .val (.ref b5)] [.null, (.ref wE)])) rfl (by rw [hml]; rfl) (Steps.refl _) (argsL := [.null]) (rest := []) (lenOf pd_6 rfl) rfl (by show 2 * 0 + _ ≤ _; exact Nat.le_of_eq rfl) (hb hby at_308) (fun _ hWm => ⟨rfl, Kq35, (by decide : 6 + 0 ≤ _), (by decide : 47 + 0 ≤ _)⟩)
      dsimp only [Pt.U, Pt.locs, Pt.cells, Pt.slots] at X36 l36 y36 z36 st36 hQ36
      subst l36 y36 z36
      obtain ⟨rfl, Nq36, Kq36⟩ := hQ36
      replace N := Fr.app N Nq36
      refine own_go (B := T36.setTop (mkF m 311 #[.val (.int p1), .val (.int p2), .val (.int p3), .val (.int p4), .val (.int x0), .val (.int x1), .val (.int x2), .val (.ref b1), .val (.ref b5), .val (.int (0 : Int32)), .val (.int (1 : Int32)), .val (.ref b5), .val (.ref b1), .val (.ref b22), .val (.ref b22), .val (.int (1 : Int32)), .val (.ref b5), .val (.ref b5)] [.null])) (fun t k => st36.trans k) ?_
      refine own_go (B := T36.setTop (mkF m 323 #[.val (.int p1), .val (.int p2), .val (.int p3), .val (.int p4), .val (.int x0), .val (.int x1), .val (.int x2), .val (.ref b1), .val (.ref b5), .val (.int (0 : Int32)), .val (.int (1 : Int32)), .val (.ref b5), .val (.ref b1), .val (.ref b22), .val (.ref b22), .val (.int (1 : Int32)), .val (.ref b5), .val (.ref b5)] [(.int (1 : Int32))])) (fun t k => ?_) ?_
      · show Steps p.tables e below (T36.setTop (mkF m 311 #[.val (.int p1), .val (.int p2), .val (.int p3), .val (.int p4), .val (.int x0), .val (.int x1), .val (.int x2), .val (.ref b1), .val (.ref b5), .val (.int (0 : Int32)), .val (.int (1 : Int32)), .val (.ref b5), .val (.ref b1), .val (.ref b22), .val (.ref b22), .val (.int (1 : Int32)), .val (.ref b5), .val (.ref b5)] [.null])) _
        refine XT.ifnonnullNo X36.here hx rfl (hb hby at_311) rfl ?_
        show Steps p.tables e below (T36.setTop (mkF m 314 #[.val (.int p1), .val (.int p2), .val (.int p3), .val (.int p4), .val (.int x0), .val (.int x1), .val (.int x2), .val (.ref b1), .val (.ref b5), .val (.int (0 : Int32)), .val (.int (1 : Int32)), .val (.ref b5), .val (.ref b1), .val (.ref b22), .val (.ref b22), .val (.int (1 : Int32)), .val (.ref b5), .val (.ref b5)] [])) _
        refine XS.iconst X36.here hx rfl (hb hby at_314) ?_
        show Steps p.tables e below (T36.setTop (mkF m 315 #[.val (.int p1), .val (.int p2), .val (.int p3), .val (.int p4), .val (.int x0), .val (.int x1), .val (.int x2), .val (.ref b1), .val (.ref b5), .val (.int (0 : Int32)), .val (.int (1 : Int32)), .val (.ref b5), .val (.ref b1), .val (.ref b22), .val (.ref b22), .val (.int (1 : Int32)), .val (.ref b5), .val (.ref b5)] [(.int (1 : Int32))])) _
        refine XS.goto X36.here hx rfl (pc0 := 315) (pc' := 319) rfl (hb hby at_315) (by decide) (by decide) ?_
        show Steps p.tables e below (T36.setTop (mkF m 319 #[.val (.int p1), .val (.int p2), .val (.int p3), .val (.int p4), .val (.int x0), .val (.int x1), .val (.int x2), .val (.ref b1), .val (.ref b5), .val (.int (0 : Int32)), .val (.int (1 : Int32)), .val (.ref b5), .val (.ref b1), .val (.ref b22), .val (.ref b22), .val (.int (1 : Int32)), .val (.ref b5), .val (.ref b5)] [(.int (1 : Int32))])) _
        refine XS.istore X36.here hx rfl (hb hby at_319) rfl (l' := #[.val (.int p1), .val (.int p2), .val (.int p3), .val (.int p4), .val (.int x0), .val (.int x1), .val (.int x2), .val (.ref b1), .val (.ref b5), .val (.int (0 : Int32)), .val (.int (1 : Int32)), .val (.ref b5), .val (.ref b1), .val (.ref b22), .val (.ref b22), .val (.int (1 : Int32)), .val (.ref b5), .val (.ref b5)]) rfl ?_
        show Steps p.tables e below (T36.setTop (mkF m 321 #[.val (.int p1), .val (.int p2), .val (.int p3), .val (.int p4), .val (.int x0), .val (.int x1), .val (.int x2), .val (.ref b1), .val (.ref b5), .val (.int (0 : Int32)), .val (.int (1 : Int32)), .val (.ref b5), .val (.ref b1), .val (.ref b22), .val (.ref b22), .val (.int (1 : Int32)), .val (.ref b5), .val (.ref b5)] [])) _
        refine XS.iload X36.here hx rfl (hb hby at_321) rfl ?_
        show Steps p.tables e below (T36.setTop (mkF m 323 #[.val (.int p1), .val (.int p2), .val (.int p3), .val (.int p4), .val (.int x0), .val (.int x1), .val (.int x2), .val (.ref b1), .val (.ref b5), .val (.int (0 : Int32)), .val (.int (1 : Int32)), .val (.ref b5), .val (.ref b1), .val (.ref b22), .val (.ref b22), .val (.int (1 : Int32)), .val (.ref b5), .val (.ref b5)] [(.int (1 : Int32))])) _
        exact k
      obtain ⟨fs, hr, hrun, hended, hEnd⟩ := X36.leaveW hS (by rw [Kq36]; exact hk) (v := some (.int (1 : Int32))) (fun h => by rw [Bd.returns] at h; cases h)
      refine ⟨_, _, retN X36 hx (t := .boolean) Bd.returns (by simp) (hb hby at_323) hr, hfin _ _ ⟨hrun, hended, _, _, rfl, ?_, hEnd.1, hEnd.2.1, hEnd.2.2.1, hEnd.2.2.2.mono (by decide) (by decide)⟩⟩
      show Q0 Z p1 p2 p3 p4 wE h0 n0 _ T36.heap _
      rw [Kq36]
      exact ⟨rfl, N⟩
  · by_cases kb : (p4 &&& (2 : Int32)) = (0 : Int32)
    · refine own_go (B := T5.setTop (mkF m 103 #[.val (.int p1), .val (.int p2), .val (.int p3), .val (.int p4), .val (.int x0), .val (.int x1), .val (.int x2), .val (.ref b1), .val (.ref b5), .val (.int (1 : Int32)), .val (.int (0 : Int32)), .val (.ref b1), .val (.ref b5), .unset, .unset, .unset, .unset, .unset] [])) (fun t k => ?_) ?_
      · show Steps p.tables e below (T5.setTop (mkF m 49 #[.val (.int p1), .val (.int p2), .val (.int p3), .val (.int p4), .val (.int x0), .val (.int x1), .val (.int x2), .val (.ref b1), .val (.ref b5), .unset, .unset, .unset, .unset, .unset, .unset, .unset, .unset, .unset] [])) _
        refine XS.iloadN X5.here hx rfl (hb hby at_49) rfl ?_
        show Steps p.tables e below (T5.setTop (mkF m 50 #[.val (.int p1), .val (.int p2), .val (.int p3), .val (.int p4), .val (.int x0), .val (.int x1), .val (.int x2), .val (.ref b1), .val (.ref b5), .unset, .unset, .unset, .unset, .unset, .unset, .unset, .unset, .unset] [(.int p4)])) _
        refine XS.iconst X5.here hx rfl (hb hby at_50) ?_
        show Steps p.tables e below (T5.setTop (mkF m 51 #[.val (.int p1), .val (.int p2), .val (.int p3), .val (.int p4), .val (.int x0), .val (.int x1), .val (.int x2), .val (.ref b1), .val (.ref b5), .unset, .unset, .unset, .unset, .unset, .unset, .unset, .unset, .unset] [(.int (1 : Int32)), (.int p4)])) _
        refine XS.iand X5.here hx rfl (hb hby at_51) rfl ?_
        show Steps p.tables e below (T5.setTop (mkF m 52 #[.val (.int p1), .val (.int p2), .val (.int p3), .val (.int p4), .val (.int x0), .val (.int x1), .val (.int x2), .val (.ref b1), .val (.ref b5), .unset, .unset, .unset, .unset, .unset, .unset, .unset, .unset, .unset] [(.int (p4 &&& (1 : Int32)))])) _
        refine XS.ifNo X5.here hx rfl (hb hby at_52) rfl ((if0 _ _).trans (feq ka).1) ?_
        show Steps p.tables e below (T5.setTop (mkF m 55 #[.val (.int p1), .val (.int p2), .val (.int p3), .val (.int p4), .val (.int x0), .val (.int x1), .val (.int x2), .val (.ref b1), .val (.ref b5), .unset, .unset, .unset, .unset, .unset, .unset, .unset, .unset, .unset] [])) _
        refine XS.iconst X5.here hx rfl (hb hby at_55) ?_
        show Steps p.tables e below (T5.setTop (mkF m 56 #[.val (.int p1), .val (.int p2), .val (.int p3), .val (.int p4), .val (.int x0), .val (.int x1), .val (.int x2), .val (.ref b1), .val (.ref b5), .unset, .unset, .unset, .unset, .unset, .unset, .unset, .unset, .unset] [(.int (1 : Int32))])) _
        refine XS.goto X5.here hx rfl (pc0 := 56) (pc' := 60) rfl (hb hby at_56) (by decide) (by decide) ?_
        show Steps p.tables e below (T5.setTop (mkF m 60 #[.val (.int p1), .val (.int p2), .val (.int p3), .val (.int p4), .val (.int x0), .val (.int x1), .val (.int x2), .val (.ref b1), .val (.ref b5), .unset, .unset, .unset, .unset, .unset, .unset, .unset, .unset, .unset] [(.int (1 : Int32))])) _
        refine XS.istore X5.here hx rfl (hb hby at_60) rfl (l' := #[.val (.int p1), .val (.int p2), .val (.int p3), .val (.int p4), .val (.int x0), .val (.int x1), .val (.int x2), .val (.ref b1), .val (.ref b5), .val (.int (1 : Int32)), .unset, .unset, .unset, .unset, .unset, .unset, .unset, .unset]) rfl ?_
        show Steps p.tables e below (T5.setTop (mkF m 62 #[.val (.int p1), .val (.int p2), .val (.int p3), .val (.int p4), .val (.int x0), .val (.int x1), .val (.int x2), .val (.ref b1), .val (.ref b5), .val (.int (1 : Int32)), .unset, .unset, .unset, .unset, .unset, .unset, .unset, .unset] [])) _
        refine XS.iloadN X5.here hx rfl (hb hby at_62) rfl ?_
        show Steps p.tables e below (T5.setTop (mkF m 63 #[.val (.int p1), .val (.int p2), .val (.int p3), .val (.int p4), .val (.int x0), .val (.int x1), .val (.int x2), .val (.ref b1), .val (.ref b5), .val (.int (1 : Int32)), .unset, .unset, .unset, .unset, .unset, .unset, .unset, .unset] [(.int p4)])) _
        refine XS.iconst X5.here hx rfl (hb hby at_63) ?_
        show Steps p.tables e below (T5.setTop (mkF m 64 #[.val (.int p1), .val (.int p2), .val (.int p3), .val (.int p4), .val (.int x0), .val (.int x1), .val (.int x2), .val (.ref b1), .val (.ref b5), .val (.int (1 : Int32)), .unset, .unset, .unset, .unset, .unset, .unset, .unset, .unset] [(.int (2 : Int32)), (.int p4)])) _
        refine XS.iand X5.here hx rfl (hb hby at_64) rfl ?_
        show Steps p.tables e below (T5.setTop (mkF m 65 #[.val (.int p1), .val (.int p2), .val (.int p3), .val (.int p4), .val (.int x0), .val (.int x1), .val (.int x2), .val (.ref b1), .val (.ref b5), .val (.int (1 : Int32)), .unset, .unset, .unset, .unset, .unset, .unset, .unset, .unset] [(.int (p4 &&& (2 : Int32)))])) _
        refine XS.ifYes X5.here hx rfl (pc0 := 65) (pc' := 72) rfl (hb hby at_65) rfl ((if0 _ _).trans (teq kb).1) (by decide) (by decide) ?_
        show Steps p.tables e below (T5.setTop (mkF m 72 #[.val (.int p1), .val (.int p2), .val (.int p3), .val (.int p4), .val (.int x0), .val (.int x1), .val (.int x2), .val (.ref b1), .val (.ref b5), .val (.int (1 : Int32)), .unset, .unset, .unset, .unset, .unset, .unset, .unset, .unset] [])) _
        refine XS.iconst X5.here hx rfl (hb hby at_72) ?_
        show Steps p.tables e below (T5.setTop (mkF m 73 #[.val (.int p1), .val (.int p2), .val (.int p3), .val (.int p4), .val (.int x0), .val (.int x1), .val (.int x2), .val (.ref b1), .val (.ref b5), .val (.int (1 : Int32)), .unset, .unset, .unset, .unset, .unset, .unset, .unset, .unset] [(.int (0 : Int32))])) _
        refine XS.istore X5.here hx rfl (hb hby at_73) rfl (l' := #[.val (.int p1), .val (.int p2), .val (.int p3), .val (.int p4), .val (.int x0), .val (.int x1), .val (.int x2), .val (.ref b1), .val (.ref b5), .val (.int (1 : Int32)), .val (.int (0 : Int32)), .unset, .unset, .unset, .unset, .unset, .unset, .unset]) rfl ?_
        show Steps p.tables e below (T5.setTop (mkF m 75 #[.val (.int p1), .val (.int p2), .val (.int p3), .val (.int p4), .val (.int x0), .val (.int x1), .val (.int x2), .val (.ref b1), .val (.ref b5), .val (.int (1 : Int32)), .val (.int (0 : Int32)), .unset, .unset, .unset, .unset, .unset, .unset, .unset] [])) _
        refine XS.iload X5.here hx rfl (hb hby at_75) rfl ?_
        show Steps p.tables e below (T5.setTop (mkF m 77 #[.val (.int p1), .val (.int p2), .val (.int p3), .val (.int p4), .val (.int x0), .val (.int x1), .val (.int x2), .val (.ref b1), .val (.ref b5), .val (.int (1 : Int32)), .val (.int (0 : Int32)), .unset, .unset, .unset, .unset, .unset, .unset, .unset] [(.int (0 : Int32))])) _
        refine XS.ifYes X5.here hx rfl (pc0 := 77) (pc' := 85) rfl (hb hby at_77) rfl ((if0 _ _).trans (teq (by decide)).1) (by decide) (by decide) ?_
        show Steps p.tables e below (T5.setTop (mkF m 85 #[.val (.int p1), .val (.int p2), .val (.int p3), .val (.int p4), .val (.int x0), .val (.int x1), .val (.int x2), .val (.ref b1), .val (.ref b5), .val (.int (1 : Int32)), .val (.int (0 : Int32)), .unset, .unset, .unset, .unset, .unset, .unset, .unset] [])) _
        refine XS.aload X5.here hx rfl (hb hby at_85) rfl rfl ?_
        show Steps p.tables e below (T5.setTop (mkF m 87 #[.val (.int p1), .val (.int p2), .val (.int p3), .val (.int p4), .val (.int x0), .val (.int x1), .val (.int x2), .val (.ref b1), .val (.ref b5), .val (.int (1 : Int32)), .val (.int (0 : Int32)), .unset, .unset, .unset, .unset, .unset, .unset, .unset] [(.ref b1)])) _
        refine XS.astore X5.here hx rfl (hb hby at_87) rfl rfl (l' := #[.val (.int p1), .val (.int p2), .val (.int p3), .val (.int p4), .val (.int x0), .val (.int x1), .val (.int x2), .val (.ref b1), .val (.ref b5), .val (.int (1 : Int32)), .val (.int (0 : Int32)), .val (.ref b1), .unset, .unset, .unset, .unset, .unset, .unset]) rfl ?_
        show Steps p.tables e below (T5.setTop (mkF m 89 #[.val (.int p1), .val (.int p2), .val (.int p3), .val (.int p4), .val (.int x0), .val (.int x1), .val (.int x2), .val (.ref b1), .val (.ref b5), .val (.int (1 : Int32)), .val (.int (0 : Int32)), .val (.ref b1), .unset, .unset, .unset, .unset, .unset, .unset] [])) _
        refine XS.iload X5.here hx rfl (hb hby at_89) rfl ?_
        show Steps p.tables e below (T5.setTop (mkF m 91 #[.val (.int p1), .val (.int p2), .val (.int p3), .val (.int p4), .val (.int x0), .val (.int x1), .val (.int x2), .val (.ref b1), .val (.ref b5), .val (.int (1 : Int32)), .val (.int (0 : Int32)), .val (.ref b1), .unset, .unset, .unset, .unset, .unset, .unset] [(.int (0 : Int32))])) _
        refine XS.ifYes X5.here hx rfl (pc0 := 91) (pc' := 99) rfl (hb hby at_91) rfl ((if0 _ _).trans (teq (by decide)).1) (by decide) (by decide) ?_
        show Steps p.tables e below (T5.setTop (mkF m 99 #[.val (.int p1), .val (.int p2), .val (.int p3), .val (.int p4), .val (.int x0), .val (.int x1), .val (.int x2), .val (.ref b1), .val (.ref b5), .val (.int (1 : Int32)), .val (.int (0 : Int32)), .val (.ref b1), .unset, .unset, .unset, .unset, .unset, .unset] [])) _
        refine XS.aload X5.here hx rfl (hb hby at_99) rfl rfl ?_
        show Steps p.tables e below (T5.setTop (mkF m 101 #[.val (.int p1), .val (.int p2), .val (.int p3), .val (.int p4), .val (.int x0), .val (.int x1), .val (.int x2), .val (.ref b1), .val (.ref b5), .val (.int (1 : Int32)), .val (.int (0 : Int32)), .val (.ref b1), .unset, .unset, .unset, .unset, .unset, .unset] [(.ref b5)])) _
        refine XS.astore X5.here hx rfl (hb hby at_101) rfl rfl (l' := #[.val (.int p1), .val (.int p2), .val (.int p3), .val (.int p4), .val (.int x0), .val (.int x1), .val (.int x2), .val (.ref b1), .val (.ref b5), .val (.int (1 : Int32)), .val (.int (0 : Int32)), .val (.ref b1), .val (.ref b5), .unset, .unset, .unset, .unset, .unset]) rfl ?_
        show Steps p.tables e below (T5.setTop (mkF m 103 #[.val (.int p1), .val (.int p2), .val (.int p3), .val (.int p4), .val (.int x0), .val (.int x1), .val (.int x2), .val (.ref b1), .val (.ref b5), .val (.int (1 : Int32)), .val (.int (0 : Int32)), .val (.ref b1), .val (.ref b5), .unset, .unset, .unset, .unset, .unset] [])) _
        exact k
      obtain ⟨T38, h38, X38, e38, E38, A38, D38, -, st38⟩ := newO X5 hx hZ hown (hw _ (List.mem_of_getElem? (i := 2) rfl)) (hw _ (List.mem_of_getElem? (i := 3) rfl)) (hw _ (List.mem_of_getElem? (i := 4) rfl)) e5 (g := (mkF m 103 #[.val (.int p1), .val (.int p2), .val (.int p3), .val (.int p4), .val (.int x0), .val (.int x1), .val (.int x2), .val (.ref b1), .val (.ref b5), .val (.int (1 : Int32)), .val (.int (0 : Int32)), .val (.ref b1), .val (.ref b5), .unset, .unset, .unset, .unset, .unset] [])) rfl (hb hby at_103) (by decide) (by decide)
      obtain ⟨b38, g38⟩ : ∃ z, z = h5.size := ⟨_, rfl⟩
      rw [← g38] at A38 D38 st38
      have lt_b1_b38 : b1 < b38 := Nat.lt_of_lt_of_le G1.lt (Nat.le_of_eq g38.symm)
      have lt_b5_b38 : b5 < b38 := Nat.lt_of_lt_of_le G5.lt (Nat.le_of_eq g38.symm)
      have g_b38 : n0 ≤ b38 := Nat.le_trans (own_oldsz O) (Nat.le_of_eq g38.symm)
      replace G1 := G1.ext E38
      replace V4 := V4.ext E38
      replace G5 := G5.ext E38
      replace V5 := V5.ext E38
      replace O := O.ext E38
      replace hk := Nat.le_trans hk E38.1
      have F38_unreadable : Fld Z h38 b38 "com/example/fixity/fixity/engine/AccountRequest" "unreadable" "Ljava/lang/String;" .null := D38 (Or.inr (hw _ (List.mem_of_getElem? (i := 12) rfl))) (ty := (.object "java/lang/String")) (by decide)
      have F38_password : Fld Z h38 b38 "com/example/fixity/fixity/engine/AccountRequest" "password" "[C" .null := D38 (Or.inl (hw _ (List.mem_of_getElem? (i := 33) rfl))) (ty := (.array .char)) (by decide)
      have F38_role : Fld Z h38 b38 "com/example/fixity/fixity/engine/AccountRequest" "role" "Ljava/lang/String;" .null := D38 (Or.inl (hw _ (List.mem_of_getElem? (i := 64) rfl))) (ty := (.object "java/lang/String")) (by decide)
      refine own_go (B := T38.setTop (mkF m 106 #[.val (.int p1), .val (.int p2), .val (.int p3), .val (.int p4), .val (.int x0), .val (.int x1), .val (.int x2), .val (.ref b1), .val (.ref b5), .val (.int (1 : Int32)), .val (.int (0 : Int32)), .val (.ref b1), .val (.ref b5), .unset, .unset, .unset, .unset, .unset] [(.ref b38)])) st38 ?_
      refine own_go (B := T38.setTop (mkF m 107 #[.val (.int p1), .val (.int p2), .val (.int p3), .val (.int p4), .val (.int x0), .val (.int x1), .val (.int x2), .val (.ref b1), .val (.ref b5), .val (.int (1 : Int32)), .val (.int (0 : Int32)), .val (.ref b1), .val (.ref b5), .unset, .unset, .unset, .unset, .unset] [(.ref b38), (.ref b38)])) (fun t k => ?_) ?_
      · show Steps p.tables e below (T38.setTop (mkF m 106 #[.val (.int p1), .val (.int p2), .val (.int p3), .val (.int p4), .val (.int x0), .val (.int x1), .val (.int x2), .val (.ref b1), .val (.ref b5), .val (.int (1 : Int32)), .val (.int (0 : Int32)), .val (.ref b1), .val (.ref b5), .unset, .unset, .unset, .unset, .unset] [(.ref b38)])) _
        refine XS.dup X38.here hx rfl (hb hby at_106) rfl rfl ?_
        show Steps p.tables e below (T38.setTop (mkF m 107 #[.val (.int p1), .val (.int p2), .val (.int p3), .val (.int p4), .val (.int x0), .val (.int x1), .val (.int x2), .val (.ref b1), .val (.ref b5), .val (.int (1 : Int32)), .val (.int (0 : Int32)), .val (.ref b1), .val (.ref b5), .unset, .unset, .unset, .unset, .unset] [(.ref b38), (.ref b38)])) _
        exact k
      -- pc 107: com/example/fixity/fixity/engine/AccountRequest.<init>
      obtain ⟨_, _, ⟨T39, L39, k39, n39⟩, -, X39, ⟨Lc39, hQ39, l39, y39, z39⟩, st39⟩ := X38.specialBack hx (y := (⟨"com/example/fixity/fixity/engine/AccountRequest", "<init>", "()V"⟩ : MethodName)) rfl hown (mvT hZ (hw _ (List.mem_of_getElem? (i := 5) rfl))) (mvT hZ (hw _ (List.mem_of_getElem? (i := 6) rfl))) (mvT hZ (hw _ (List.mem_of_getElem? (i := 7) rfl))) (by decide) (backOf (W := 1) (rmInit l Z a0 hw [] b38 h38 n0 O A38 F38_unreadable F38_role F38_password g_b38) hZ (hw _ (List.mem_of_getElem? (i := 7) rfl)) (hw _ (List.mem_of_getElem? (i := 4) rfl)) (by decide) (by decide)) (g := (mkF m 107 #[.val (.int p1), .val (.int p2), .val (.int p3), .val (.int p4), .val (.int x0), .val (.int x1), .val (.int x2), .val (.ref b1), .val (.ref b5), .val (.int (1 : Int32)), .val (.int (0 : Int32)), .val (.ref b1), .val (.ref b5), .unset, .unset, .unset, .unset, .unset] [(.ref b38), (.ref b38)])) rfl (by rw [hml]; rfl) (Steps.refl _) (a := b38) (argsL := []) (rest := [(.ref b38)]) (lenOf pd_3 rfl) rfl (by show 2 * 0 + _ ≤ _; exact Nat.le_of_eq rfl) (hb hby at_107) (fun _ hWm => ⟨rfl, e38, (by decide : 3 + 0 ≤ _), (by decide : 10 + 0 ≤ _)⟩)
      dsimp only [Pt.U, Pt.locs, Pt.cells, Pt.slots] at X39 l39 y39 z39 st39 hQ39
      subst l39 y39 z39
      obtain ⟨rfl, Nq39, Kq39, Gq39_0, Gq39_1, Gq39_2⟩ := hQ39
      replace N := Fr.app N Nq39
      replace G1 := G1.keep Kq39
      replace V4 := V4.keep Kq39 (ninS (Nat.ne_of_lt lt_b1_b38) nin0)
      replace G5 := G5.keep Kq39
      replace V5 := V5.keep Kq39 (ninS (Nat.ne_of_lt lt_b5_b38) nin0)
      replace A38 := A38.keep Kq39
      clear F38_unreadable
      clear F38_password
      clear F38_role
      replace O := O.keep Kq39 (allS g_b38 all0)
      replace hk := Nat.le_trans hk Kq39.1
      refine own_go (B := T39.setTop (mkF m 110 #[.val (.int p1), .val (.int p2), .val (.int p3), .val (.int p4), .val (.int x0), .val (.int x1), .val (.int x2), .val (.ref b1), .val (.ref b5), .val (.int (1 : Int32)), .val (.int (0 : Int32)), .val (.ref b1), .val (.ref b5), .unset, .unset, .unset, .unset, .unset] [(.ref b38)])) (fun t k => st39.trans k) ?_
      refine own_go (B := T39.setTop (mkF m 116 #[.val (.int p1), .val (.int p2), .val (.int p3), .val (.int p4), .val (.int x0), .val (.int x1), .val (.int x2), .val (.ref b1), .val (.ref b5), .val (.int (1 : Int32)), .val (.int (0 : Int32)), .val (.ref b1), .val (.ref b5), .val (.ref b38), .unset, .unset, .unset, .unset] [(.ref b1), (.ref b38)])) (fun t k => ?_) ?_
      · show Steps p.tables e below (T39.setTop (mkF m 110 #[.val (.int p1), .val (.int p2), .val (.int p3), .val (.int p4), .val (.int x0), .val (.int x1), .val (.int x2), .val (.ref b1), .val (.ref b5), .val (.int (1 : Int32)), .val (.int (0 : Int32)), .val (.ref b1), .val (.ref b5), .unset, .unset, .unset, .unset, .unset] [(.ref b38)])) _
        refine XS.astore X39.here hx rfl (hb hby at_110) rfl rfl (l' := #[.val (.int p1), .val (.int p2), .val (.int p3), .val (.int p4), .val (.int x0), .val (.int x1), .val (.int x2), .val (.ref b1), .val (.ref b5), .val (.int (1 : Int32)), .val (.int (0 : Int32)), .val (.ref b1), .val (.ref b5), .val (.ref b38), .unset, .unset, .unset, .unset]) rfl ?_
        show Steps p.tables e below (T39.setTop (mkF m 112 #[.val (.int p1), .val (.int p2), .val (.int p3), .val (.int p4), .val (.int x0), .val (.int x1), .val (.int x2), .val (.ref b1), .val (.ref b5), .val (.int (1 : Int32)), .val (.int (0 : Int32)), .val (.ref b1), .val (.ref b5), .val (.ref b38), .unset, .unset, .unset, .unset] [])) _
        refine XS.aload X39.here hx rfl (hb hby at_112) rfl rfl ?_
        show Steps p.tables e below (T39.setTop (mkF m 114 #[.val (.int p1), .val (.int p2), .val (.int p3), .val (.int p4), .val (.int x0), .val (.int x1), .val (.int x2), .val (.ref b1), .val (.ref b5), .val (.int (1 : Int32)), .val (.int (0 : Int32)), .val (.ref b1), .val (.ref b5), .val (.ref b38), .unset, .unset, .unset, .unset] [(.ref b38)])) _
        refine XS.aload X39.here hx rfl (hb hby at_114) rfl rfl ?_
        show Steps p.tables e below (T39.setTop (mkF m 116 #[.val (.int p1), .val (.int p2), .val (.int p3), .val (.int p4), .val (.int x0), .val (.int x1), .val (.int x2), .val (.ref b1), .val (.ref b5), .val (.int (1 : Int32)), .val (.int (0 : Int32)), .val (.ref b1), .val (.ref b5), .val (.ref b38), .unset, .unset, .unset, .unset] [(.ref b1), (.ref b38)])) _
        exact k
      -- pc 116: com/example/fixity/fixity/engine/AccountRequest.password
      obtain ⟨cq40, kq40, q40a, q40b, q40c⟩ := isOf hZ rfl A38
      obtain ⟨_, _, ⟨T40, L40, k40, n40⟩, -, X40, hSq40, hgq40, ⟨Lc40, hQ40, l40, y40, z40⟩, st40⟩ := X39.virtualBackS hx (y := (⟨"com/example/fixity/fixity/engine/AccountRequest", "password", "([C)Lcom/example/fixity/fixity/engine/AccountRequest;"⟩ : MethodName)) (z := (⟨"com/example/fixity/fixity/engine/AccountRequest", "password", "([C)Lcom/example/fixity/fixity/engine/AccountRequest;"⟩ : MethodName)) hown (mvT hZ (hw _ (List.mem_of_getElem? (i := 13) rfl))) (mvT hZ (hw _ (List.mem_of_getElem? (i := 14) rfl))) (notFace_of_selects (args := #[]) (mvT hZ (hw _ (List.mem_of_getElem? (i := 16) rfl)))) (mvT hZ (hw _ (List.mem_of_getElem? (i := 16) rfl))) (mvT hZ (hw _ (List.mem_of_getElem? (i := 15) rfl))) (by decide) (backOfS (W := 0) (rmSetpassword l Z a0 hw [] b38 b1 (.null) T39.heap n0 O A38 Gq39_2 Gq39_0 Gq39_1 G1 g_b38) hZ (hw _ (List.mem_of_getElem? (i := 17) rfl)) (hw _ (List.mem_of_getElem? (i := 4) rfl)) (by decide) (by decide)) q40a q40c (g := (mkF m 116 #[.val (.int p1), .val (.int p2), .val (.int p3), .val (.int p4), .val (.int x0), .val (.int x1), .val (.int x2), .val (.ref b1), .val (.ref b5), .val (.int (1 : Int32)), .val (.int (0 : Int32)), .val (.ref b1), .val (.ref b5), .val (.ref b38), .unset, .unset, .unset, .unset] [(.ref b1), (.ref b38)])) rfl (by rw [hml]; rfl) (Steps.refl _) (argsL := [(.ref b1)]) (rest := []) (lenOf pd_4 rfl) rfl (by show 2 * 0 + _ ≤ _; exact Nat.le_of_eq rfl) (hb hby at_116) (fun _ hWm => ⟨rfl, rfl, (by decide : 3 + 2 ≤ _), (by decide : 10 + 36 ≤ _)⟩)
      dsimp only [Pt.U, Pt.locs, Pt.cells, Pt.slots] at X40 l40 y40 z40 st40 hQ40 hSq40 hgq40
      subst l40 y40 z40
      obtain ⟨X40, hS, hZ, hown⟩ := rebS hS hk X40 hSq40 hgq40 hZ hown
      obtain ⟨rfl, Nq40, Kq40, Gq40_0, Gq40_1, Gq40_2⟩ := hQ40
      replace N := Fr.app N Nq40
      replace G1 := G1.keep Kq40
      replace V4 := V4.keep Kq40 (ninS (Nat.ne_of_lt lt_b1_b38) nin0)
      replace G5 := G5.keep Kq40
      replace V5 := V5.keep Kq40 (ninS (Nat.ne_of_lt lt_b5_b38) nin0)
      replace A38 := A38.keep Kq40
      clear Gq39_0
      clear Gq39_1
      clear Gq39_2
      replace O := O.keep Kq40 (allS g_b38 all0)
      have hk : T40.heap.size ≤ T40.heap.size := Nat.le_refl _
      refine own_go (B := T40.setTop (mkF m 119 #[.val (.int p1), .val (.int p2), .val (.int p3), .val (.int p4), .val (.int x0), .val (.int x1), .val (.int x2), .val (.ref b1), .val (.ref b5), .val (.int (1 : Int32)), .val (.int (0 : Int32)), .val (.ref b1), .val (.ref b5), .val (.ref b38), .unset, .unset, .unset, .unset] [(.ref b38)])) (fun t k => st40.trans k) ?_
      refine own_go (B := T40.setTop (mkF m 148 #[.val (.int p1), .val (.int p2), .val (.int p3), .val (.int p4), .val (.int x0), .val (.int x1), .val (.int x2), .val (.ref b1), .val (.ref b5), .val (.int (1 : Int32)), .val (.int (0 : Int32)), .val (.ref b1), .val (.ref b5), .val (.ref b38), .val (.ref b38), .val (.int (1 : Int32)), .val (.ref b1), .unset] [(.ref b5), (.ref b38)])) (fun t k => ?_) ?_
      · show Steps p.tables e below (T40.setTop (mkF m 119 #[.val (.int p1), .val (.int p2), .val (.int p3), .val (.int p4), .val (.int x0), .val (.int x1), .val (.int x2), .val (.ref b1), .val (.ref b5), .val (.int (1 : Int32)), .val (.int (0 : Int32)), .val (.ref b1), .val (.ref b5), .val (.ref b38), .unset, .unset, .unset, .unset] [(.ref b38)])) _
        refine XS.astore X40.here hx rfl (hb hby at_119) rfl rfl (l' := #[.val (.int p1), .val (.int p2), .val (.int p3), .val (.int p4), .val (.int x0), .val (.int x1), .val (.int x2), .val (.ref b1), .val (.ref b5), .val (.int (1 : Int32)), .val (.int (0 : Int32)), .val (.ref b1), .val (.ref b5), .val (.ref b38), .val (.ref b38), .unset, .unset, .unset]) rfl ?_
        show Steps p.tables e below (T40.setTop (mkF m 121 #[.val (.int p1), .val (.int p2), .val (.int p3), .val (.int p4), .val (.int x0), .val (.int x1), .val (.int x2), .val (.ref b1), .val (.ref b5), .val (.int (1 : Int32)), .val (.int (0 : Int32)), .val (.ref b1), .val (.ref b5), .val (.ref b38), .val (.ref b38), .unset, .unset, .unset] [])) _
        refine XS.aload X40.here hx rfl (hb hby at_121) rfl rfl ?_
        show Steps p.tables e below (T40.setTop (mkF m 123 #[.val (.int p1), .val (.int p2), .val (.int p3), .val (.int p4), .val (.int x0), .val (.int x1), .val (.int x2), .val (.ref b1), .val (.ref b5), .val (.int (1 : Int32)), .val (.int (0 : Int32)), .val (.ref b1), .val (.ref b5), .val (.ref b38), .val (.ref b38), .unset, .unset, .unset] [(.ref b38)])) _
        refine XS.aload X40.here hx rfl (hb hby at_123) rfl rfl ?_
        show Steps p.tables e below (T40.setTop (mkF m 125 #[.val (.int p1), .val (.int p2), .val (.int p3), .val (.int p4), .val (.int x0), .val (.int x1), .val (.int x2), .val (.ref b1), .val (.ref b5), .val (.int (1 : Int32)), .val (.int (0 : Int32)), .val (.ref b1), .val (.ref b5), .val (.ref b38), .val (.ref b38), .unset, .unset, .unset] [(.ref b38), (.ref b38)])) _
        refine Jvm.RoadKit.acmp (g := (mkF m 125 #[.val (.int p1), .val (.int p2), .val (.int p3), .val (.int p4), .val (.int x0), .val (.int x1), .val (.int x2), .val (.ref b1), .val (.ref b5), .val (.int (1 : Int32)), .val (.int (0 : Int32)), .val (.ref b1), .val (.ref b5), .val (.ref b38), .val (.ref b38), .unset, .unset, .unset] [(.ref b38), (.ref b38)])) X40 hx rfl rfl rfl (pc0 := 125) (pc' := 128) (same := true) rfl (hb hby at_125) rfl (decide_eq_true (congrArg Value.ref rfl)) (by decide) (by decide) ?_
        show Steps p.tables e below (T40.setTop (mkF m 128 #[.val (.int p1), .val (.int p2), .val (.int p3), .val (.int p4), .val (.int x0), .val (.int x1), .val (.int x2), .val (.ref b1), .val (.ref b5), .val (.int (1 : Int32)), .val (.int (0 : Int32)), .val (.ref b1), .val (.ref b5), .val (.ref b38), .val (.ref b38), .unset, .unset, .unset] [])) _
        refine XS.iconst X40.here hx rfl (hb hby at_128) ?_
        show Steps p.tables e below (T40.setTop (mkF m 129 #[.val (.int p1), .val (.int p2), .val (.int p3), .val (.int p4), .val (.int x0), .val (.int x1), .val (.int x2), .val (.ref b1), .val (.ref b5), .val (.int (1 : Int32)), .val (.int (0 : Int32)), .val (.ref b1), .val (.ref b5), .val (.ref b38), .val (.ref b38), .unset, .unset, .unset] [(.int (1 : Int32))])) _
        refine XS.goto X40.here hx rfl (pc0 := 129) (pc' := 133) rfl (hb hby at_129) (by decide) (by decide) ?_
        show Steps p.tables e below (T40.setTop (mkF m 133 #[.val (.int p1), .val (.int p2), .val (.int p3), .val (.int p4), .val (.int x0), .val (.int x1), .val (.int x2), .val (.ref b1), .val (.ref b5), .val (.int (1 : Int32)), .val (.int (0 : Int32)), .val (.ref b1), .val (.ref b5), .val (.ref b38), .val (.ref b38), .unset, .unset, .unset] [(.int (1 : Int32))])) _
        refine XS.istore X40.here hx rfl (hb hby at_133) rfl (l' := #[.val (.int p1), .val (.int p2), .val (.int p3), .val (.int p4), .val (.int x0), .val (.int x1), .val (.int x2), .val (.ref b1), .val (.ref b5), .val (.int (1 : Int32)), .val (.int (0 : Int32)), .val (.ref b1), .val (.ref b5), .val (.ref b38), .val (.ref b38), .val (.int (1 : Int32)), .unset, .unset]) rfl ?_
        show Steps p.tables e below (T40.setTop (mkF m 135 #[.val (.int p1), .val (.int p2), .val (.int p3), .val (.int p4), .val (.int x0), .val (.int x1), .val (.int x2), .val (.ref b1), .val (.ref b5), .val (.int (1 : Int32)), .val (.int (0 : Int32)), .val (.ref b1), .val (.ref b5), .val (.ref b38), .val (.ref b38), .val (.int (1 : Int32)), .unset, .unset] [])) _
        refine XS.aload X40.here hx rfl (hb hby at_135) rfl rfl ?_
        show Steps p.tables e below (T40.setTop (mkF m 137 #[.val (.int p1), .val (.int p2), .val (.int p3), .val (.int p4), .val (.int x0), .val (.int x1), .val (.int x2), .val (.ref b1), .val (.ref b5), .val (.int (1 : Int32)), .val (.int (0 : Int32)), .val (.ref b1), .val (.ref b5), .val (.ref b38), .val (.ref b38), .val (.int (1 : Int32)), .unset, .unset] [(.ref b1)])) _
        refine XS.astore X40.here hx rfl (hb hby at_137) rfl rfl (l' := #[.val (.int p1), .val (.int p2), .val (.int p3), .val (.int p4), .val (.int x0), .val (.int x1), .val (.int x2), .val (.ref b1), .val (.ref b5), .val (.int (1 : Int32)), .val (.int (0 : Int32)), .val (.ref b1), .val (.ref b5), .val (.ref b38), .val (.ref b38), .val (.int (1 : Int32)), .val (.ref b1), .unset]) rfl ?_
        show Steps p.tables e below (T40.setTop (mkF m 139 #[.val (.int p1), .val (.int p2), .val (.int p3), .val (.int p4), .val (.int x0), .val (.int x1), .val (.int x2), .val (.ref b1), .val (.ref b5), .val (.int (1 : Int32)), .val (.int (0 : Int32)), .val (.ref b1), .val (.ref b5), .val (.ref b38), .val (.ref b38), .val (.int (1 : Int32)), .val (.ref b1), .unset] [])) _
        refine XS.iload X40.here hx rfl (hb hby at_139) rfl ?_
        show Steps p.tables e below (T40.setTop (mkF m 141 #[.val (.int p1), .val (.int p2), .val (.int p3), .val (.int p4), .val (.int x0), .val (.int x1), .val (.int x2), .val (.ref b1), .val (.ref b5), .val (.int (1 : Int32)), .val (.int (0 : Int32)), .val (.ref b1), .val (.ref b5), .val (.ref b38), .val (.ref b38), .val (.int (1 : Int32)), .val (.ref b1), .unset] [(.int (1 : Int32))])) _
        refine XS.ifNo X40.here hx rfl (hb hby at_141) rfl ((if0 _ _).trans (feq (by decide)).1) ?_
        show Steps p.tables e below (T40.setTop (mkF m 144 #[.val (.int p1), .val (.int p2), .val (.int p3), .val (.int p4), .val (.int x0), .val (.int x1), .val (.int x2), .val (.ref b1), .val (.ref b5), .val (.int (1 : Int32)), .val (.int (0 : Int32)), .val (.ref b1), .val (.ref b5), .val (.ref b38), .val (.ref b38), .val (.int (1 : Int32)), .val (.ref b1), .unset] [])) _
        refine XS.aload X40.here hx rfl (hb hby at_144) rfl rfl ?_
        show Steps p.tables e below (T40.setTop (mkF m 146 #[.val (.int p1), .val (.int p2), .val (.int p3), .val (.int p4), .val (.int x0), .val (.int x1), .val (.int x2), .val (.ref b1), .val (.ref b5), .val (.int (1 : Int32)), .val (.int (0 : Int32)), .val (.ref b1), .val (.ref b5), .val (.ref b38), .val (.ref b38), .val (.int (1 : Int32)), .val (.ref b1), .unset] [(.ref b38)])) _
        refine XS.aload X40.here hx rfl (hb hby at_146) rfl rfl ?_
        show Steps p.tables e below (T40.setTop (mkF m 148 #[.val (.int p1), .val (.int p2), .val (.int p3), .val (.int p4), .val (.int x0), .val (.int x1), .val (.int x2), .val (.ref b1), .val (.ref b5), .val (.int (1 : Int32)), .val (.int (0 : Int32)), .val (.ref b1), .val (.ref b5), .val (.ref b38), .val (.ref b38), .val (.int (1 : Int32)), .val (.ref b1), .unset] [(.ref b5), (.ref b38)])) _
        exact k
      -- pc 148: com/example/fixity/fixity/engine/AccountRequest.password
      obtain ⟨cq41, kq41, q41a, q41b, q41c⟩ := isOf hZ rfl A38
      obtain ⟨_, _, ⟨T41, L41, k41, n41⟩, -, X41, hSq41, hgq41, ⟨Lc41, hQ41, l41, y41, z41⟩, st41⟩ := X40.virtualBackS hx (y := (⟨"com/example/fixity/fixity/engine/AccountRequest", "password", "([C)Lcom/example/fixity/fixity/engine/AccountRequest;"⟩ : MethodName)) (z := (⟨"com/example/fixity/fixity/engine/AccountRequest", "password", "([C)Lcom/example/fixity/fixity/engine/AccountRequest;"⟩ : MethodName)) hown (mvT hZ (hw _ (List.mem_of_getElem? (i := 13) rfl))) (mvT hZ (hw _ (List.mem_of_getElem? (i := 14) rfl))) (notFace_of_selects (args := #[]) (mvT hZ (hw _ (List.mem_of_getElem? (i := 16) rfl)))) (mvT hZ (hw _ (List.mem_of_getElem? (i := 16) rfl))) (mvT hZ (hw _ (List.mem_of_getElem? (i := 15) rfl))) (by decide) (backOfS (W := 0) (rmSetpassword l Z a0 hw [] b38 b5 (.ref b1) T40.heap n0 O A38 Gq40_0 Gq40_1 Gq40_2 G5 g_b38) hZ (hw _ (List.mem_of_getElem? (i := 17) rfl)) (hw _ (List.mem_of_getElem? (i := 4) rfl)) (by decide) (by decide)) q41a q41c (g := (mkF m 148 #[.val (.int p1), .val (.int p2), .val (.int p3), .val (.int p4), .val (.int x0), .val (.int x1), .val (.int x2), .val (.ref b1), .val (.ref b5), .val (.int (1 : Int32)), .val (.int (0 : Int32)), .val (.ref b1), .val (.ref b5), .val (.ref b38), .val (.ref b38), .val (.int (1 : Int32)), .val (.ref b1), .unset] [(.ref b5), (.ref b38)])) rfl (by rw [hml]; rfl) (Steps.refl _) (argsL := [(.ref b5)]) (rest := []) (lenOf pd_4 rfl) rfl (by show 2 * 0 + _ ≤ _; exact Nat.le_of_eq rfl) (hb hby at_148) (fun _ hWm => ⟨rfl, rfl, (by decide : 5 + 2 ≤ _), (by decide : 46 + 36 ≤ _)⟩)
      dsimp only [Pt.U, Pt.locs, Pt.cells, Pt.slots] at X41 l41 y41 z41 st41 hQ41 hSq41 hgq41
      subst l41 y41 z41
      obtain ⟨X41, hS, hZ, hown⟩ := rebS hS hk X41 hSq41 hgq41 hZ hown
      obtain ⟨rfl, Nq41, Kq41, Gq41_0, Gq41_1, Gq41_2⟩ := hQ41
      replace N := Fr.app N Nq41
      replace G1 := G1.keep Kq41
      replace V4 := V4.keep Kq41 (ninS (Nat.ne_of_lt lt_b1_b38) nin0)
      replace G5 := G5.keep Kq41
      replace V5 := V5.keep Kq41 (ninS (Nat.ne_of_lt lt_b5_b38) nin0)
      replace A38 := A38.keep Kq41
      clear Gq40_0
      clear Gq40_1
      clear Gq40_2
      replace O := O.keep Kq41 (allS g_b38 all0)
      have hk : T41.heap.size ≤ T41.heap.size := Nat.le_refl _
      refine own_go (B := T41.setTop (mkF m 151 #[.val (.int p1), .val (.int p2), .val (.int p3), .val (.int p4), .val (.int x0), .val (.int x1), .val (.int x2), .val (.ref b1), .val (.ref b5), .val (.int (1 : Int32)), .val (.int (0 : Int32)), .val (.ref b1), .val (.ref b5), .val (.ref b38), .val (.ref b38), .val (.int (1 : Int32)), .val (.ref b1), .unset] [(.ref b38)])) (fun t k => st41.trans k) ?_
      refine own_go (B := T41.setTop (mkF m 178 #[.val (.int p1), .val (.int p2), .val (.int p3), .val (.int p4), .val (.int x0), .val (.int x1), .val (.int x2), .val (.ref b1), .val (.ref b5), .val (.int (1 : Int32)), .val (.int (0 : Int32)), .val (.ref b1), .val (.ref b5), .val (.ref b38), .val (.ref b38), .val (.int (1 : Int32)), .val (.ref b5), .val (.ref b38)] [(.ref b38)])) (fun t k => ?_) ?_
      · show Steps p.tables e below (T41.setTop (mkF m 151 #[.val (.int p1), .val (.int p2), .val (.int p3), .val (.int p4), .val (.int x0), .val (.int x1), .val (.int x2), .val (.ref b1), .val (.ref b5), .val (.int (1 : Int32)), .val (.int (0 : Int32)), .val (.ref b1), .val (.ref b5), .val (.ref b38), .val (.ref b38), .val (.int (1 : Int32)), .val (.ref b1), .unset] [(.ref b38)])) _
        refine XS.astore X41.here hx rfl (hb hby at_151) rfl rfl (l' := #[.val (.int p1), .val (.int p2), .val (.int p3), .val (.int p4), .val (.int x0), .val (.int x1), .val (.int x2), .val (.ref b1), .val (.ref b5), .val (.int (1 : Int32)), .val (.int (0 : Int32)), .val (.ref b1), .val (.ref b5), .val (.ref b38), .val (.ref b38), .val (.int (1 : Int32)), .val (.ref b1), .val (.ref b38)]) rfl ?_
        show Steps p.tables e below (T41.setTop (mkF m 153 #[.val (.int p1), .val (.int p2), .val (.int p3), .val (.int p4), .val (.int x0), .val (.int x1), .val (.int x2), .val (.ref b1), .val (.ref b5), .val (.int (1 : Int32)), .val (.int (0 : Int32)), .val (.ref b1), .val (.ref b5), .val (.ref b38), .val (.ref b38), .val (.int (1 : Int32)), .val (.ref b1), .val (.ref b38)] [])) _
        refine XS.iload X41.here hx rfl (hb hby at_153) rfl ?_
        show Steps p.tables e below (T41.setTop (mkF m 155 #[.val (.int p1), .val (.int p2), .val (.int p3), .val (.int p4), .val (.int x0), .val (.int x1), .val (.int x2), .val (.ref b1), .val (.ref b5), .val (.int (1 : Int32)), .val (.int (0 : Int32)), .val (.ref b1), .val (.ref b5), .val (.ref b38), .val (.ref b38), .val (.int (1 : Int32)), .val (.ref b1), .val (.ref b38)] [(.int (1 : Int32))])) _
        refine XS.ifNo X41.here hx rfl (hb hby at_155) rfl ((if0 _ _).trans (feq (by decide)).1) ?_
        show Steps p.tables e below (T41.setTop (mkF m 158 #[.val (.int p1), .val (.int p2), .val (.int p3), .val (.int p4), .val (.int x0), .val (.int x1), .val (.int x2), .val (.ref b1), .val (.ref b5), .val (.int (1 : Int32)), .val (.int (0 : Int32)), .val (.ref b1), .val (.ref b5), .val (.ref b38), .val (.ref b38), .val (.int (1 : Int32)), .val (.ref b1), .val (.ref b38)] [])) _
        refine XS.aload X41.here hx rfl (hb hby at_158) rfl rfl ?_
        show Steps p.tables e below (T41.setTop (mkF m 160 #[.val (.int p1), .val (.int p2), .val (.int p3), .val (.int p4), .val (.int x0), .val (.int x1), .val (.int x2), .val (.ref b1), .val (.ref b5), .val (.int (1 : Int32)), .val (.int (0 : Int32)), .val (.ref b1), .val (.ref b5), .val (.ref b38), .val (.ref b38), .val (.int (1 : Int32)), .val (.ref b1), .val (.ref b38)] [(.ref b38)])) _
        refine XS.aload X41.here hx rfl (hb hby at_160) rfl rfl ?_
        show Steps p.tables e below (T41.setTop (mkF m 162 #[.val (.int p1), .val (.int p2), .val (.int p3), .val (.int p4), .val (.int x0), .val (.int x1), .val (.int x2), .val (.ref b1), .val (.ref b5), .val (.int (1 : Int32)), .val (.int (0 : Int32)), .val (.ref b1), .val (.ref b5), .val (.ref b38), .val (.ref b38), .val (.int (1 : Int32)), .val (.ref b1), .val (.ref b38)] [(.ref b38), (.ref b38)])) _
        refine Jvm.RoadKit.acmp (g := (mkF m 162 #[.val (.int p1), .val (.int p2), .val (.int p3), .val (.int p4), .val (.int x0), .val (.int x1), .val (.int x2), .val (.ref b1), .val (.ref b5), .val (.int (1 : Int32)), .val (.int (0 : Int32)), .val (.ref b1), .val (.ref b5), .val (.ref b38), .val (.ref b38), .val (.int (1 : Int32)), .val (.ref b1), .val (.ref b38)] [(.ref b38), (.ref b38)])) X41 hx rfl rfl rfl (pc0 := 162) (pc' := 165) (same := true) rfl (hb hby at_162) rfl (decide_eq_true (congrArg Value.ref rfl)) (by decide) (by decide) ?_
        show Steps p.tables e below (T41.setTop (mkF m 165 #[.val (.int p1), .val (.int p2), .val (.int p3), .val (.int p4), .val (.int x0), .val (.int x1), .val (.int x2), .val (.ref b1), .val (.ref b5), .val (.int (1 : Int32)), .val (.int (0 : Int32)), .val (.ref b1), .val (.ref b5), .val (.ref b38), .val (.ref b38), .val (.int (1 : Int32)), .val (.ref b1), .val (.ref b38)] [])) _
        refine XS.iconst X41.here hx rfl (hb hby at_165) ?_
        show Steps p.tables e below (T41.setTop (mkF m 166 #[.val (.int p1), .val (.int p2), .val (.int p3), .val (.int p4), .val (.int x0), .val (.int x1), .val (.int x2), .val (.ref b1), .val (.ref b5), .val (.int (1 : Int32)), .val (.int (0 : Int32)), .val (.ref b1), .val (.ref b5), .val (.ref b38), .val (.ref b38), .val (.int (1 : Int32)), .val (.ref b1), .val (.ref b38)] [(.int (1 : Int32))])) _
        refine XS.goto X41.here hx rfl (pc0 := 166) (pc' := 170) rfl (hb hby at_166) (by decide) (by decide) ?_
        show Steps p.tables e below (T41.setTop (mkF m 170 #[.val (.int p1), .val (.int p2), .val (.int p3), .val (.int p4), .val (.int x0), .val (.int x1), .val (.int x2), .val (.ref b1), .val (.ref b5), .val (.int (1 : Int32)), .val (.int (0 : Int32)), .val (.ref b1), .val (.ref b5), .val (.ref b38), .val (.ref b38), .val (.int (1 : Int32)), .val (.ref b1), .val (.ref b38)] [(.int (1 : Int32))])) _
        refine XS.istore X41.here hx rfl (hb hby at_170) rfl (l' := #[.val (.int p1), .val (.int p2), .val (.int p3), .val (.int p4), .val (.int x0), .val (.int x1), .val (.int x2), .val (.ref b1), .val (.ref b5), .val (.int (1 : Int32)), .val (.int (0 : Int32)), .val (.ref b1), .val (.ref b5), .val (.ref b38), .val (.ref b38), .val (.int (1 : Int32)), .val (.ref b1), .val (.ref b38)]) rfl ?_
        show Steps p.tables e below (T41.setTop (mkF m 172 #[.val (.int p1), .val (.int p2), .val (.int p3), .val (.int p4), .val (.int x0), .val (.int x1), .val (.int x2), .val (.ref b1), .val (.ref b5), .val (.int (1 : Int32)), .val (.int (0 : Int32)), .val (.ref b1), .val (.ref b5), .val (.ref b38), .val (.ref b38), .val (.int (1 : Int32)), .val (.ref b1), .val (.ref b38)] [])) _
        refine XS.aload X41.here hx rfl (hb hby at_172) rfl rfl ?_
        show Steps p.tables e below (T41.setTop (mkF m 174 #[.val (.int p1), .val (.int p2), .val (.int p3), .val (.int p4), .val (.int x0), .val (.int x1), .val (.int x2), .val (.ref b1), .val (.ref b5), .val (.int (1 : Int32)), .val (.int (0 : Int32)), .val (.ref b1), .val (.ref b5), .val (.ref b38), .val (.ref b38), .val (.int (1 : Int32)), .val (.ref b1), .val (.ref b38)] [(.ref b5)])) _
        refine XS.astore X41.here hx rfl (hb hby at_174) rfl rfl (l' := #[.val (.int p1), .val (.int p2), .val (.int p3), .val (.int p4), .val (.int x0), .val (.int x1), .val (.int x2), .val (.ref b1), .val (.ref b5), .val (.int (1 : Int32)), .val (.int (0 : Int32)), .val (.ref b1), .val (.ref b5), .val (.ref b38), .val (.ref b38), .val (.int (1 : Int32)), .val (.ref b5), .val (.ref b38)]) rfl ?_
        show Steps p.tables e below (T41.setTop (mkF m 176 #[.val (.int p1), .val (.int p2), .val (.int p3), .val (.int p4), .val (.int x0), .val (.int x1), .val (.int x2), .val (.ref b1), .val (.ref b5), .val (.int (1 : Int32)), .val (.int (0 : Int32)), .val (.ref b1), .val (.ref b5), .val (.ref b38), .val (.ref b38), .val (.int (1 : Int32)), .val (.ref b5), .val (.ref b38)] [])) _
        refine XS.aload X41.here hx rfl (hb hby at_176) rfl rfl ?_
        show Steps p.tables e below (T41.setTop (mkF m 178 #[.val (.int p1), .val (.int p2), .val (.int p3), .val (.int p4), .val (.int x0), .val (.int x1), .val (.int x2), .val (.ref b1), .val (.ref b5), .val (.int (1 : Int32)), .val (.int (0 : Int32)), .val (.ref b1), .val (.ref b5), .val (.ref b38), .val (.ref b38), .val (.int (1 : Int32)), .val (.ref b5), .val (.ref b38)] [(.ref b38)])) _
        exact k
      -- pc 178: com/example/fixity/fixity/engine/AccountRequest.password
      obtain ⟨cq42, kq42, q42a, q42b, q42c⟩ := isOf hZ rfl A38
      obtain ⟨_, _, ⟨T42, L42, k42, n42⟩, -, X42, ⟨Lc42, hQ42, l42, y42, z42⟩, st42⟩ := X41.virtualBack hx (y := (⟨"com/example/fixity/fixity/engine/AccountRequest", "password", "()Ljava/util/Optional;"⟩ : MethodName)) (z := (⟨"com/example/fixity/fixity/engine/AccountRequest", "password", "()Ljava/util/Optional;"⟩ : MethodName)) hown (mvT hZ (hw _ (List.mem_of_getElem? (i := 34) rfl))) (mvT hZ (hw _ (List.mem_of_getElem? (i := 35) rfl))) (notFace_of_selects (args := #[]) (mvT hZ (hw _ (List.mem_of_getElem? (i := 37) rfl)))) (mvT hZ (hw _ (List.mem_of_getElem? (i := 37) rfl))) (mvT hZ (hw _ (List.mem_of_getElem? (i := 36) rfl))) (by decide) (backOf (W := 0) (rmG1password l Z a0 hw [] b38 b5 T41.heap n0 O Gq41_0) hZ (hw _ (List.mem_of_getElem? (i := 38) rfl)) (hw _ (List.mem_of_getElem? (i := 4) rfl)) (by decide) (by decide)) q42a q42c (g := (mkF m 178 #[.val (.int p1), .val (.int p2), .val (.int p3), .val (.int p4), .val (.int x0), .val (.int x1), .val (.int x2), .val (.ref b1), .val (.ref b5), .val (.int (1 : Int32)), .val (.int (0 : Int32)), .val (.ref b1), .val (.ref b5), .val (.ref b38), .val (.ref b38), .val (.int (1 : Int32)), .val (.ref b5), .val (.ref b38)] [(.ref b38)])) rfl (by rw [hml]; rfl) (Steps.refl _) (argsL := []) (rest := []) (lenOf pd_5 rfl) rfl (by show 2 * 0 + _ ≤ _; exact Nat.le_of_eq rfl) (hb hby at_178) (fun _ hWm => ⟨rfl, rfl, (by decide : 7 + 1 ≤ _), (by decide : 82 + 1 ≤ _)⟩)
      dsimp only [Pt.U, Pt.locs, Pt.cells, Pt.slots] at X42 l42 y42 z42 st42 hQ42
      subst l42 y42 z42
      obtain ⟨r42, rfl, Nq42, Kq42, fq42_r, Gq42_0, Gq42_1⟩ := hQ42
      replace N := Fr.app N Nq42
      have lt_b1_r42 : b1 < r42 := Nat.lt_of_lt_of_le G1.lt fq42_r
      have lt_b5_r42 : b5 < r42 := Nat.lt_of_lt_of_le G5.lt fq42_r
      have lt_b38_r42 : b38 < r42 := Nat.lt_of_lt_of_le A38.lt fq42_r
      have g_r42 : n0 ≤ r42 := Nat.le_trans (own_oldsz O) fq42_r
      replace G1 := G1.keep Kq42
      replace V4 := V4.keep Kq42 nin0
      replace G5 := G5.keep Kq42
      replace V5 := V5.keep Kq42 nin0
      replace A38 := A38.keep Kq42
      replace Gq41_0 := Gq41_0.keep Kq42 nin0
      replace Gq41_1 := Gq41_1.keep Kq42 nin0
      replace Gq41_2 := Gq41_2.keep Kq42 nin0
      replace O := O.keep Kq42 all0
      replace hk := Nat.le_trans hk Kq42.1
      refine own_go (B := T42.setTop (mkF m 181 #[.val (.int p1), .val (.int p2), .val (.int p3), .val (.int p4), .val (.int x0), .val (.int x1), .val (.int x2), .val (.ref b1), .val (.ref b5), .val (.int (1 : Int32)), .val (.int (0 : Int32)), .val (.ref b1), .val (.ref b5), .val (.ref b38), .val (.ref b38), .val (.int (1 : Int32)), .val (.ref b5), .val (.ref b38)] [(.ref r42)])) (fun t k => st42.trans k) ?_
      refine own_go (B := T42.setTop (mkF m 182 #[.val (.int p1), .val (.int p2), .val (.int p3), .val (.int p4), .val (.int x0), .val (.int x1), .val (.int x2), .val (.ref b1), .val (.ref b5), .val (.int (1 : Int32)), .val (.int (0 : Int32)), .val (.ref b1), .val (.ref b5), .val (.ref b38), .val (.ref b38), .val (.int (1 : Int32)), .val (.ref b5), .val (.ref b38)] [.null, (.ref r42)])) (fun t k => ?_) ?_
      · show Steps p.tables e below (T42.setTop (mkF m 181 #[.val (.int p1), .val (.int p2), .val (.int p3), .val (.int p4), .val (.int x0), .val (.int x1), .val (.int x2), .val (.ref b1), .val (.ref b5), .val (.int (1 : Int32)), .val (.int (0 : Int32)), .val (.ref b1), .val (.ref b5), .val (.ref b38), .val (.ref b38), .val (.int (1 : Int32)), .val (.ref b5), .val (.ref b38)] [(.ref r42)])) _
        refine XS.aconstNull X42.here hx rfl (hb hby at_181) ?_
        show Steps p.tables e below (T42.setTop (mkF m 182 #[.val (.int p1), .val (.int p2), .val (.int p3), .val (.int p4), .val (.int x0), .val (.int x1), .val (.int x2), .val (.ref b1), .val (.ref b5), .val (.int (1 : Int32)), .val (.int (0 : Int32)), .val (.ref b1), .val (.ref b5), .val (.ref b38), .val (.ref b38), .val (.int (1 : Int32)), .val (.ref b5), .val (.ref b38)] [.null, (.ref r42)])) _
        exact k
      -- pc 182: java/util/Optional.orElse
      obtain ⟨cq43, kq43, q43a, q43b, q43c⟩ := isOf hZ rfl Gq42_0
      obtain ⟨_, _, ⟨T43, L43, k43, n43⟩, -, X43, ⟨Lc43, hQ43, l43, y43, z43⟩, st43⟩ := X42.virtualBack hx (y := (⟨"java/util/Optional", "orElse", "(Ljava/lang/Object;)Ljava/lang/Object;"⟩ : MethodName)) (z := (⟨"java/util/Optional", "orElse", "(Ljava/lang/Object;)Ljava/lang/Object;"⟩ : MethodName)) hown (mvT hZ (hw _ (List.mem_of_getElem? (i := 52) rfl))) (mvT hZ (hw _ (List.mem_of_getElem? (i := 53) rfl))) (notFace_of_selects (args := #[]) (mvT hZ (hw _ (List.mem_of_getElem? (i := 55) rfl)))) (mvT hZ (hw _ (List.mem_of_getElem? (i := 55) rfl))) (mvT hZ (hw _ (List.mem_of_getElem? (i := 54) rfl))) (by decide) (backOf (W := 0) (rmOE1 l Z a0 hw [] r42 b5 T42.heap n0 O Gq42_1) hZ (hw _ (List.mem_of_getElem? (i := 56) rfl)) (hw _ (List.mem_of_getElem? (i := 41) rfl)) (by decide) (by decide)) q43a q43c (g := (mkF m 182 #[.val (.int p1), .val (.int p2), .val (.int p3), .val (.int p4), .val (.int x0), .val (.int x1), .val (.int x2), .val (.ref b1), .val (.ref b5), .val (.int (1 : Int32)), .val (.int (0 : Int32)), .val (.ref b1), .val (.ref b5), .val (.ref b38), .val (.ref b38), .val (.int (1 : Int32)), .val (.ref b5), .val (.ref b38)] [.null, (.ref r42)])) rfl (by rw [hml]; rfl) (Steps.refl _) (argsL := [.null]) (rest := []) (lenOf pd_6 rfl) rfl (by show 2 * 0 + _ ≤ _; exact Nat.le_of_eq rfl) (hb hby at_182) (fun _ hWm => ⟨rfl, rfl, (by decide : 8 + 0 ≤ _), (by decide : 83 + 0 ≤ _)⟩)
      dsimp only [Pt.U, Pt.locs, Pt.cells, Pt.slots] at X43 l43 y43 z43 st43 hQ43
      subst l43 y43 z43
      obtain ⟨rfl, Nq43, Kq43⟩ := hQ43
      replace N := Fr.app N Nq43
      refine own_go (B := T43.setTop (mkF m 185 #[.val (.int p1), .val (.int p2), .val (.int p3), .val (.int p4), .val (.int x0), .val (.int x1), .val (.int x2), .val (.ref b1), .val (.ref b5), .val (.int (1 : Int32)), .val (.int (0 : Int32)), .val (.ref b1), .val (.ref b5), .val (.ref b38), .val (.ref b38), .val (.int (1 : Int32)), .val (.ref b5), .val (.ref b38)] [(.ref b5)])) (fun t k => st43.trans k) ?_
      obtain ⟨T44, X44, e44, st44⟩ := castY X43 hx hZ hown (hw _ (List.mem_of_getElem? (i := 57) rfl)) Kq43 (Ins.self G5) (g := (mkF m 185 #[.val (.int p1), .val (.int p2), .val (.int p3), .val (.int p4), .val (.int x0), .val (.int x1), .val (.int x2), .val (.ref b1), .val (.ref b5), .val (.int (1 : Int32)), .val (.int (0 : Int32)), .val (.ref b1), .val (.ref b5), .val (.ref b38), .val (.ref b38), .val (.int (1 : Int32)), .val (.ref b5), .val (.ref b38)] [(.ref b5)])) rfl rfl (hb hby at_185)
      refine own_go (B := T44.setTop (mkF m 188 #[.val (.int p1), .val (.int p2), .val (.int p3), .val (.int p4), .val (.int x0), .val (.int x1), .val (.int x2), .val (.ref b1), .val (.ref b5), .val (.int (1 : Int32)), .val (.int (0 : Int32)), .val (.ref b1), .val (.ref b5), .val (.ref b38), .val (.ref b38), .val (.int (1 : Int32)), .val (.ref b5), .val (.ref b38)] [(.ref b5)])) st44 ?_
      refine own_go (B := T44.setTop (mkF m 216 #[.val (.int p1), .val (.int p2), .val (.int p3), .val (.int p4), .val (.int x0), .val (.int x1), .val (.int x2), .val (.ref b1), .val (.ref b5), .val (.int (1 : Int32)), .val (.int (0 : Int32)), .val (.ref b1), .val (.ref b5), .val (.ref b38), .val (.ref b38), .val (.int (1 : Int32)), .val (.ref b5), .val (.ref b5)] [(.ref b1)])) (fun t k => ?_) ?_
      · show Steps p.tables e below (T44.setTop (mkF m 188 #[.val (.int p1), .val (.int p2), .val (.int p3), .val (.int p4), .val (.int x0), .val (.int x1), .val (.int x2), .val (.ref b1), .val (.ref b5), .val (.int (1 : Int32)), .val (.int (0 : Int32)), .val (.ref b1), .val (.ref b5), .val (.ref b38), .val (.ref b38), .val (.int (1 : Int32)), .val (.ref b5), .val (.ref b38)] [(.ref b5)])) _
        refine XS.astore X44.here hx rfl (hb hby at_188) rfl rfl (l' := #[.val (.int p1), .val (.int p2), .val (.int p3), .val (.int p4), .val (.int x0), .val (.int x1), .val (.int x2), .val (.ref b1), .val (.ref b5), .val (.int (1 : Int32)), .val (.int (0 : Int32)), .val (.ref b1), .val (.ref b5), .val (.ref b38), .val (.ref b38), .val (.int (1 : Int32)), .val (.ref b5), .val (.ref b5)]) rfl ?_
        show Steps p.tables e below (T44.setTop (mkF m 190 #[.val (.int p1), .val (.int p2), .val (.int p3), .val (.int p4), .val (.int x0), .val (.int x1), .val (.int x2), .val (.ref b1), .val (.ref b5), .val (.int (1 : Int32)), .val (.int (0 : Int32)), .val (.ref b1), .val (.ref b5), .val (.ref b38), .val (.ref b38), .val (.int (1 : Int32)), .val (.ref b5), .val (.ref b5)] [])) _
        refine XS.iload X44.here hx rfl (hb hby at_190) rfl ?_
        show Steps p.tables e below (T44.setTop (mkF m 192 #[.val (.int p1), .val (.int p2), .val (.int p3), .val (.int p4), .val (.int x0), .val (.int x1), .val (.int x2), .val (.ref b1), .val (.ref b5), .val (.int (1 : Int32)), .val (.int (0 : Int32)), .val (.ref b1), .val (.ref b5), .val (.ref b38), .val (.ref b38), .val (.int (1 : Int32)), .val (.ref b5), .val (.ref b5)] [(.int (1 : Int32))])) _
        refine XS.ifNo X44.here hx rfl (hb hby at_192) rfl ((if0 _ _).trans (feq (by decide)).1) ?_
        show Steps p.tables e below (T44.setTop (mkF m 195 #[.val (.int p1), .val (.int p2), .val (.int p3), .val (.int p4), .val (.int x0), .val (.int x1), .val (.int x2), .val (.ref b1), .val (.ref b5), .val (.int (1 : Int32)), .val (.int (0 : Int32)), .val (.ref b1), .val (.ref b5), .val (.ref b38), .val (.ref b38), .val (.int (1 : Int32)), .val (.ref b5), .val (.ref b5)] [])) _
        refine XS.aload X44.here hx rfl (hb hby at_195) rfl rfl ?_
        show Steps p.tables e below (T44.setTop (mkF m 197 #[.val (.int p1), .val (.int p2), .val (.int p3), .val (.int p4), .val (.int x0), .val (.int x1), .val (.int x2), .val (.ref b1), .val (.ref b5), .val (.int (1 : Int32)), .val (.int (0 : Int32)), .val (.ref b1), .val (.ref b5), .val (.ref b38), .val (.ref b38), .val (.int (1 : Int32)), .val (.ref b5), .val (.ref b5)] [(.ref b5)])) _
        refine XS.aload X44.here hx rfl (hb hby at_197) rfl rfl ?_
        show Steps p.tables e below (T44.setTop (mkF m 199 #[.val (.int p1), .val (.int p2), .val (.int p3), .val (.int p4), .val (.int x0), .val (.int x1), .val (.int x2), .val (.ref b1), .val (.ref b5), .val (.int (1 : Int32)), .val (.int (0 : Int32)), .val (.ref b1), .val (.ref b5), .val (.ref b38), .val (.ref b38), .val (.int (1 : Int32)), .val (.ref b5), .val (.ref b5)] [(.ref b5), (.ref b5)])) _
        refine Jvm.RoadKit.acmp (g := (mkF m 199 #[.val (.int p1), .val (.int p2), .val (.int p3), .val (.int p4), .val (.int x0), .val (.int x1), .val (.int x2), .val (.ref b1), .val (.ref b5), .val (.int (1 : Int32)), .val (.int (0 : Int32)), .val (.ref b1), .val (.ref b5), .val (.ref b38), .val (.ref b38), .val (.int (1 : Int32)), .val (.ref b5), .val (.ref b5)] [(.ref b5), (.ref b5)])) X44 hx rfl rfl rfl (pc0 := 199) (pc' := 202) (same := true) rfl (hb hby at_199) rfl (decide_eq_true (congrArg Value.ref rfl)) (by decide) (by decide) ?_
        show Steps p.tables e below (T44.setTop (mkF m 202 #[.val (.int p1), .val (.int p2), .val (.int p3), .val (.int p4), .val (.int x0), .val (.int x1), .val (.int x2), .val (.ref b1), .val (.ref b5), .val (.int (1 : Int32)), .val (.int (0 : Int32)), .val (.ref b1), .val (.ref b5), .val (.ref b38), .val (.ref b38), .val (.int (1 : Int32)), .val (.ref b5), .val (.ref b5)] [])) _
        refine XS.iconst X44.here hx rfl (hb hby at_202) ?_
        show Steps p.tables e below (T44.setTop (mkF m 203 #[.val (.int p1), .val (.int p2), .val (.int p3), .val (.int p4), .val (.int x0), .val (.int x1), .val (.int x2), .val (.ref b1), .val (.ref b5), .val (.int (1 : Int32)), .val (.int (0 : Int32)), .val (.ref b1), .val (.ref b5), .val (.ref b38), .val (.ref b38), .val (.int (1 : Int32)), .val (.ref b5), .val (.ref b5)] [(.int (1 : Int32))])) _
        refine XS.goto X44.here hx rfl (pc0 := 203) (pc' := 207) rfl (hb hby at_203) (by decide) (by decide) ?_
        show Steps p.tables e below (T44.setTop (mkF m 207 #[.val (.int p1), .val (.int p2), .val (.int p3), .val (.int p4), .val (.int x0), .val (.int x1), .val (.int x2), .val (.ref b1), .val (.ref b5), .val (.int (1 : Int32)), .val (.int (0 : Int32)), .val (.ref b1), .val (.ref b5), .val (.ref b38), .val (.ref b38), .val (.int (1 : Int32)), .val (.ref b5), .val (.ref b5)] [(.int (1 : Int32))])) _
        refine XS.istore X44.here hx rfl (hb hby at_207) rfl (l' := #[.val (.int p1), .val (.int p2), .val (.int p3), .val (.int p4), .val (.int x0), .val (.int x1), .val (.int x2), .val (.ref b1), .val (.ref b5), .val (.int (1 : Int32)), .val (.int (0 : Int32)), .val (.ref b1), .val (.ref b5), .val (.ref b38), .val (.ref b38), .val (.int (1 : Int32)), .val (.ref b5), .val (.ref b5)]) rfl ?_
        show Steps p.tables e below (T44.setTop (mkF m 209 #[.val (.int p1), .val (.int p2), .val (.int p3), .val (.int p4), .val (.int x0), .val (.int x1), .val (.int x2), .val (.ref b1), .val (.ref b5), .val (.int (1 : Int32)), .val (.int (0 : Int32)), .val (.ref b1), .val (.ref b5), .val (.ref b38), .val (.ref b38), .val (.int (1 : Int32)), .val (.ref b5), .val (.ref b5)] [])) _
        refine XS.iload X44.here hx rfl (hb hby at_209) rfl ?_
        show Steps p.tables e below (T44.setTop (mkF m 211 #[.val (.int p1), .val (.int p2), .val (.int p3), .val (.int p4), .val (.int x0), .val (.int x1), .val (.int x2), .val (.ref b1), .val (.ref b5), .val (.int (1 : Int32)), .val (.int (0 : Int32)), .val (.ref b1), .val (.ref b5), .val (.ref b38), .val (.ref b38), .val (.int (1 : Int32)), .val (.ref b5), .val (.ref b5)] [(.int (1 : Int32))])) _
        refine XS.ifNo X44.here hx rfl (hb hby at_211) rfl ((if0 _ _).trans (feq (by decide)).1) ?_
        show Steps p.tables e below (T44.setTop (mkF m 214 #[.val (.int p1), .val (.int p2), .val (.int p3), .val (.int p4), .val (.int x0), .val (.int x1), .val (.int x2), .val (.ref b1), .val (.ref b5), .val (.int (1 : Int32)), .val (.int (0 : Int32)), .val (.ref b1), .val (.ref b5), .val (.ref b38), .val (.ref b38), .val (.int (1 : Int32)), .val (.ref b5), .val (.ref b5)] [])) _
        refine XS.aload X44.here hx rfl (hb hby at_214) rfl rfl ?_
        show Steps p.tables e below (T44.setTop (mkF m 216 #[.val (.int p1), .val (.int p2), .val (.int p3), .val (.int p4), .val (.int x0), .val (.int x1), .val (.int x2), .val (.ref b1), .val (.ref b5), .val (.int (1 : Int32)), .val (.int (0 : Int32)), .val (.ref b1), .val (.ref b5), .val (.ref b38), .val (.ref b38), .val (.int (1 : Int32)), .val (.ref b5), .val (.ref b5)] [(.ref b1)])) _
        exact k
      have st45 : ∀ target, Steps p.tables e below (T44.setTop (mkF m 217 #[.val (.int p1), .val (.int p2), .val (.int p3), .val (.int p4), .val (.int x0), .val (.int x1), .val (.int x2), .val (.ref b1), .val (.ref b5), .val (.int (1 : Int32)), .val (.int (0 : Int32)), .val (.ref b1), .val (.ref b5), .val (.ref b38), .val (.ref b38), .val (.int (1 : Int32)), .val (.ref b5), .val (.ref b5)] [(.int (3 : Int32))])) target → Steps p.tables e below (T44.setTop (mkF m 216 #[.val (.int p1), .val (.int p2), .val (.int p3), .val (.int p4), .val (.int x0), .val (.int x1), .val (.int x2), .val (.ref b1), .val (.ref b5), .val (.int (1 : Int32)), .val (.int (0 : Int32)), .val (.ref b1), .val (.ref b5), .val (.ref b38), .val (.ref b38), .val (.int (1 : Int32)), .val (.ref b5), .val (.ref b5)] [(.ref b1)])) target := by
        obtain ⟨cl, Ar, q, Sz, Nn, Hs, Gt⟩ := V4
        intro target kt
        refine X44.arraylength hx (by rw [e44]; exact Ar.1) (State.isArrayOf_alike hZ.alike Ar.2.1) (g := (mkF m 216 #[.val (.int p1), .val (.int p2), .val (.int p3), .val (.int p4), .val (.int x0), .val (.int x1), .val (.int x2), .val (.ref b1), .val (.ref b5), .val (.int (1 : Int32)), .val (.int (0 : Int32)), .val (.ref b1), .val (.ref b5), .val (.ref b38), .val (.ref b38), .val (.int (1 : Int32)), .val (.ref b5), .val (.ref b5)] [(.ref b1)])) rfl rfl (hb hby at_216) _ ?_
        rw [len_of Sz Nn]
        exact kt
      refine own_go (B := T44.setTop (mkF m 217 #[.val (.int p1), .val (.int p2), .val (.int p3), .val (.int p4), .val (.int x0), .val (.int x1), .val (.int x2), .val (.ref b1), .val (.ref b5), .val (.int (1 : Int32)), .val (.int (0 : Int32)), .val (.ref b1), .val (.ref b5), .val (.ref b38), .val (.ref b38), .val (.int (1 : Int32)), .val (.ref b5), .val (.ref b5)] [(.int (3 : Int32))])) st45 ?_
      refine own_go (B := T44.setTop (mkF m 224 #[.val (.int p1), .val (.int p2), .val (.int p3), .val (.int p4), .val (.int x0), .val (.int x1), .val (.int x2), .val (.ref b1), .val (.ref b5), .val (.int (1 : Int32)), .val (.int (0 : Int32)), .val (.ref b1), .val (.ref b5), .val (.ref b38), .val (.ref b38), .val (.int (1 : Int32)), .val (.ref b5), .val (.ref b5)] [(.int (0 : Int32)), (.ref b1)])) (fun t k => ?_) ?_
      · show Steps p.tables e below (T44.setTop (mkF m 217 #[.val (.int p1), .val (.int p2), .val (.int p3), .val (.int p4), .val (.int x0), .val (.int x1), .val (.int x2), .val (.ref b1), .val (.ref b5), .val (.int (1 : Int32)), .val (.int (0 : Int32)), .val (.ref b1), .val (.ref b5), .val (.ref b38), .val (.ref b38), .val (.int (1 : Int32)), .val (.ref b5), .val (.ref b5)] [(.int (3 : Int32))])) _
        refine XS.iconst X44.here hx rfl (hb hby at_217) ?_
        show Steps p.tables e below (T44.setTop (mkF m 218 #[.val (.int p1), .val (.int p2), .val (.int p3), .val (.int p4), .val (.int x0), .val (.int x1), .val (.int x2), .val (.ref b1), .val (.ref b5), .val (.int (1 : Int32)), .val (.int (0 : Int32)), .val (.ref b1), .val (.ref b5), .val (.ref b38), .val (.ref b38), .val (.int (1 : Int32)), .val (.ref b5), .val (.ref b5)] [(.int (3 : Int32)), (.int (3 : Int32))])) _
        refine XS.icmpNo X44.here hx rfl (hb hby at_218) rfl (teq rfl).2 ?_
        show Steps p.tables e below (T44.setTop (mkF m 221 #[.val (.int p1), .val (.int p2), .val (.int p3), .val (.int p4), .val (.int x0), .val (.int x1), .val (.int x2), .val (.ref b1), .val (.ref b5), .val (.int (1 : Int32)), .val (.int (0 : Int32)), .val (.ref b1), .val (.ref b5), .val (.ref b38), .val (.ref b38), .val (.int (1 : Int32)), .val (.ref b5), .val (.ref b5)] [])) _
        refine XS.aload X44.here hx rfl (hb hby at_221) rfl rfl ?_
        show Steps p.tables e below (T44.setTop (mkF m 223 #[.val (.int p1), .val (.int p2), .val (.int p3), .val (.int p4), .val (.int x0), .val (.int x1), .val (.int x2), .val (.ref b1), .val (.ref b5), .val (.int (1 : Int32)), .val (.int (0 : Int32)), .val (.ref b1), .val (.ref b5), .val (.ref b38), .val (.ref b38), .val (.int (1 : Int32)), .val (.ref b5), .val (.ref b5)] [(.ref b1)])) _
        refine XS.iconst X44.here hx rfl (hb hby at_223) ?_
        show Steps p.tables e below (T44.setTop (mkF m 224 #[.val (.int p1), .val (.int p2), .val (.int p3), .val (.int p4), .val (.int x0), .val (.int x1), .val (.int x2), .val (.ref b1), .val (.ref b5), .val (.int (1 : Int32)), .val (.int (0 : Int32)), .val (.ref b1), .val (.ref b5), .val (.ref b38), .val (.ref b38), .val (.int (1 : Int32)), .val (.ref b5), .val (.ref b5)] [(.int (0 : Int32)), (.ref b1)])) _
        exact k
      obtain ⟨cl46, Ar46, q46, Sz46, Nn46, Hs46, Gt46⟩ := V4
      have hin46 : ¬ ((0 : Int32) < 0 ∨ cl46.slots.size ≤ ((0 : Int32)).toNatClampNeg) := inb_of Sz46 ⟨by decide, by decide⟩
      have hat46 : cl46.slots[((0 : Int32)).toNatClampNeg]? = some (.int x0) := Hs46.at hin46 rfl
      have st46 := X44.caload hx (j := (0 : Int32)) (v := (.int x0)) (by rw [e44]; exact Ar46.1) (State.isArrayOf_alike hZ.alike Ar46.2.1) Ar46.2.2 hin46 hat46 (g := (mkF m 224 #[.val (.int p1), .val (.int p2), .val (.int p3), .val (.int p4), .val (.int x0), .val (.int x1), .val (.int x2), .val (.ref b1), .val (.ref b5), .val (.int (1 : Int32)), .val (.int (0 : Int32)), .val (.ref b1), .val (.ref b5), .val (.ref b38), .val (.ref b38), .val (.int (1 : Int32)), .val (.ref b5), .val (.ref b5)] [(.int (0 : Int32)), (.ref b1)])) rfl rfl (hb hby at_224)
      have V46 : Arv Z T42.heap b1 k1 .char (3 : Int32) [(.int x0), (.int x1), (.int x2)] (.int (0 : Int32)) := ⟨cl46, Ar46, q46, Sz46, Nn46, Hs46, Gt46⟩
      refine own_go (B := T44.setTop (mkF m 225 #[.val (.int p1), .val (.int p2), .val (.int p3), .val (.int p4), .val (.int x0), .val (.int x1), .val (.int x2), .val (.ref b1), .val (.ref b5), .val (.int (1 : Int32)), .val (.int (0 : Int32)), .val (.ref b1), .val (.ref b5), .val (.ref b38), .val (.ref b38), .val (.int (1 : Int32)), .val (.ref b5), .val (.ref b5)] [(.int x0)])) st46 ?_
      refine own_go (B := T44.setTop (mkF m 233 #[.val (.int p1), .val (.int p2), .val (.int p3), .val (.int p4), .val (.int x0), .val (.int x1), .val (.int x2), .val (.ref b1), .val (.ref b5), .val (.int (1 : Int32)), .val (.int (0 : Int32)), .val (.ref b1), .val (.ref b5), .val (.ref b38), .val (.ref b38), .val (.int (1 : Int32)), .val (.ref b5), .val (.ref b5)] [(.int (1 : Int32)), (.ref b1)])) (fun t k => ?_) ?_
      · show Steps p.tables e below (T44.setTop (mkF m 225 #[.val (.int p1), .val (.int p2), .val (.int p3), .val (.int p4), .val (.int x0), .val (.int x1), .val (.int x2), .val (.ref b1), .val (.ref b5), .val (.int (1 : Int32)), .val (.int (0 : Int32)), .val (.ref b1), .val (.ref b5), .val (.ref b38), .val (.ref b38), .val (.int (1 : Int32)), .val (.ref b5), .val (.ref b5)] [(.int x0)])) _
        refine XS.iload X44.here hx rfl (hb hby at_225) rfl ?_
        show Steps p.tables e below (T44.setTop (mkF m 227 #[.val (.int p1), .val (.int p2), .val (.int p3), .val (.int p4), .val (.int x0), .val (.int x1), .val (.int x2), .val (.ref b1), .val (.ref b5), .val (.int (1 : Int32)), .val (.int (0 : Int32)), .val (.ref b1), .val (.ref b5), .val (.ref b38), .val (.ref b38), .val (.int (1 : Int32)), .val (.ref b5), .val (.ref b5)] [(.int x0), (.int x0)])) _
        refine XS.icmpNo X44.here hx rfl (hb hby at_227) rfl (teq rfl).2 ?_
        show Steps p.tables e below (T44.setTop (mkF m 230 #[.val (.int p1), .val (.int p2), .val (.int p3), .val (.int p4), .val (.int x0), .val (.int x1), .val (.int x2), .val (.ref b1), .val (.ref b5), .val (.int (1 : Int32)), .val (.int (0 : Int32)), .val (.ref b1), .val (.ref b5), .val (.ref b38), .val (.ref b38), .val (.int (1 : Int32)), .val (.ref b5), .val (.ref b5)] [])) _
        refine XS.aload X44.here hx rfl (hb hby at_230) rfl rfl ?_
        show Steps p.tables e below (T44.setTop (mkF m 232 #[.val (.int p1), .val (.int p2), .val (.int p3), .val (.int p4), .val (.int x0), .val (.int x1), .val (.int x2), .val (.ref b1), .val (.ref b5), .val (.int (1 : Int32)), .val (.int (0 : Int32)), .val (.ref b1), .val (.ref b5), .val (.ref b38), .val (.ref b38), .val (.int (1 : Int32)), .val (.ref b5), .val (.ref b5)] [(.ref b1)])) _
        refine XS.iconst X44.here hx rfl (hb hby at_232) ?_
        show Steps p.tables e below (T44.setTop (mkF m 233 #[.val (.int p1), .val (.int p2), .val (.int p3), .val (.int p4), .val (.int x0), .val (.int x1), .val (.int x2), .val (.ref b1), .val (.ref b5), .val (.int (1 : Int32)), .val (.int (0 : Int32)), .val (.ref b1), .val (.ref b5), .val (.ref b38), .val (.ref b38), .val (.int (1 : Int32)), .val (.ref b5), .val (.ref b5)] [(.int (1 : Int32)), (.ref b1)])) _
        exact k
      obtain ⟨cl47, Ar47, q47, Sz47, Nn47, Hs47, Gt47⟩ := V46
      have hin47 : ¬ ((1 : Int32) < 0 ∨ cl47.slots.size ≤ ((1 : Int32)).toNatClampNeg) := inb_of Sz47 ⟨by decide, by decide⟩
      have hat47 : cl47.slots[((1 : Int32)).toNatClampNeg]? = some (.int x1) := Hs47.at hin47 rfl
      have st47 := X44.caload hx (j := (1 : Int32)) (v := (.int x1)) (by rw [e44]; exact Ar47.1) (State.isArrayOf_alike hZ.alike Ar47.2.1) Ar47.2.2 hin47 hat47 (g := (mkF m 233 #[.val (.int p1), .val (.int p2), .val (.int p3), .val (.int p4), .val (.int x0), .val (.int x1), .val (.int x2), .val (.ref b1), .val (.ref b5), .val (.int (1 : Int32)), .val (.int (0 : Int32)), .val (.ref b1), .val (.ref b5), .val (.ref b38), .val (.ref b38), .val (.int (1 : Int32)), .val (.ref b5), .val (.ref b5)] [(.int (1 : Int32)), (.ref b1)])) rfl rfl (hb hby at_233)
      have V47 : Arv Z T42.heap b1 k1 .char (3 : Int32) [(.int x0), (.int x1), (.int x2)] (.int (0 : Int32)) := ⟨cl47, Ar47, q47, Sz47, Nn47, Hs47, Gt47⟩
      refine own_go (B := T44.setTop (mkF m 234 #[.val (.int p1), .val (.int p2), .val (.int p3), .val (.int p4), .val (.int x0), .val (.int x1), .val (.int x2), .val (.ref b1), .val (.ref b5), .val (.int (1 : Int32)), .val (.int (0 : Int32)), .val (.ref b1), .val (.ref b5), .val (.ref b38), .val (.ref b38), .val (.int (1 : Int32)), .val (.ref b5), .val (.ref b5)] [(.int x1)])) st47 ?_
      refine own_go (B := T44.setTop (mkF m 242 #[.val (.int p1), .val (.int p2), .val (.int p3), .val (.int p4), .val (.int x0), .val (.int x1), .val (.int x2), .val (.ref b1), .val (.ref b5), .val (.int (1 : Int32)), .val (.int (0 : Int32)), .val (.ref b1), .val (.ref b5), .val (.ref b38), .val (.ref b38), .val (.int (1 : Int32)), .val (.ref b5), .val (.ref b5)] [(.int (2 : Int32)), (.ref b1)])) (fun t k => ?_) ?_
      · show Steps p.tables e below (T44.setTop (mkF m 234 #[.val (.int p1), .val (.int p2), .val (.int p3), .val (.int p4), .val (.int x0), .val (.int x1), .val (.int x2), .val (.ref b1), .val (.ref b5), .val (.int (1 : Int32)), .val (.int (0 : Int32)), .val (.ref b1), .val (.ref b5), .val (.ref b38), .val (.ref b38), .val (.int (1 : Int32)), .val (.ref b5), .val (.ref b5)] [(.int x1)])) _
        refine XS.iload X44.here hx rfl (hb hby at_234) rfl ?_
        show Steps p.tables e below (T44.setTop (mkF m 236 #[.val (.int p1), .val (.int p2), .val (.int p3), .val (.int p4), .val (.int x0), .val (.int x1), .val (.int x2), .val (.ref b1), .val (.ref b5), .val (.int (1 : Int32)), .val (.int (0 : Int32)), .val (.ref b1), .val (.ref b5), .val (.ref b38), .val (.ref b38), .val (.int (1 : Int32)), .val (.ref b5), .val (.ref b5)] [(.int x1), (.int x1)])) _
        refine XS.icmpNo X44.here hx rfl (hb hby at_236) rfl (teq rfl).2 ?_
        show Steps p.tables e below (T44.setTop (mkF m 239 #[.val (.int p1), .val (.int p2), .val (.int p3), .val (.int p4), .val (.int x0), .val (.int x1), .val (.int x2), .val (.ref b1), .val (.ref b5), .val (.int (1 : Int32)), .val (.int (0 : Int32)), .val (.ref b1), .val (.ref b5), .val (.ref b38), .val (.ref b38), .val (.int (1 : Int32)), .val (.ref b5), .val (.ref b5)] [])) _
        refine XS.aload X44.here hx rfl (hb hby at_239) rfl rfl ?_
        show Steps p.tables e below (T44.setTop (mkF m 241 #[.val (.int p1), .val (.int p2), .val (.int p3), .val (.int p4), .val (.int x0), .val (.int x1), .val (.int x2), .val (.ref b1), .val (.ref b5), .val (.int (1 : Int32)), .val (.int (0 : Int32)), .val (.ref b1), .val (.ref b5), .val (.ref b38), .val (.ref b38), .val (.int (1 : Int32)), .val (.ref b5), .val (.ref b5)] [(.ref b1)])) _
        refine XS.iconst X44.here hx rfl (hb hby at_241) ?_
        show Steps p.tables e below (T44.setTop (mkF m 242 #[.val (.int p1), .val (.int p2), .val (.int p3), .val (.int p4), .val (.int x0), .val (.int x1), .val (.int x2), .val (.ref b1), .val (.ref b5), .val (.int (1 : Int32)), .val (.int (0 : Int32)), .val (.ref b1), .val (.ref b5), .val (.ref b38), .val (.ref b38), .val (.int (1 : Int32)), .val (.ref b5), .val (.ref b5)] [(.int (2 : Int32)), (.ref b1)])) _
        exact k
      obtain ⟨cl48, Ar48, q48, Sz48, Nn48, Hs48, Gt48⟩ := V47
      have hin48 : ¬ ((2 : Int32) < 0 ∨ cl48.slots.size ≤ ((2 : Int32)).toNatClampNeg) := inb_of Sz48 ⟨by decide, by decide⟩
      have hat48 : cl48.slots[((2 : Int32)).toNatClampNeg]? = some (.int x2) := Hs48.at hin48 rfl
      have st48 := X44.caload hx (j := (2 : Int32)) (v := (.int x2)) (by rw [e44]; exact Ar48.1) (State.isArrayOf_alike hZ.alike Ar48.2.1) Ar48.2.2 hin48 hat48 (g := (mkF m 242 #[.val (.int p1), .val (.int p2), .val (.int p3), .val (.int p4), .val (.int x0), .val (.int x1), .val (.int x2), .val (.ref b1), .val (.ref b5), .val (.int (1 : Int32)), .val (.int (0 : Int32)), .val (.ref b1), .val (.ref b5), .val (.ref b38), .val (.ref b38), .val (.int (1 : Int32)), .val (.ref b5), .val (.ref b5)] [(.int (2 : Int32)), (.ref b1)])) rfl rfl (hb hby at_242)
      have V48 : Arv Z T42.heap b1 k1 .char (3 : Int32) [(.int x0), (.int x1), (.int x2)] (.int (0 : Int32)) := ⟨cl48, Ar48, q48, Sz48, Nn48, Hs48, Gt48⟩
      refine own_go (B := T44.setTop (mkF m 243 #[.val (.int p1), .val (.int p2), .val (.int p3), .val (.int p4), .val (.int x0), .val (.int x1), .val (.int x2), .val (.ref b1), .val (.ref b5), .val (.int (1 : Int32)), .val (.int (0 : Int32)), .val (.ref b1), .val (.ref b5), .val (.ref b38), .val (.ref b38), .val (.int (1 : Int32)), .val (.ref b5), .val (.ref b5)] [(.int x2)])) st48 ?_
      refine own_go (B := T44.setTop (mkF m 262 #[.val (.int p1), .val (.int p2), .val (.int p3), .val (.int p4), .val (.int x0), .val (.int x1), .val (.int x2), .val (.ref b1), .val (.ref b5), .val (.int (1 : Int32)), .val (.int (0 : Int32)), .val (.ref b1), .val (.ref b5), .val (.ref b38), .val (.ref b38), .val (.int (1 : Int32)), .val (.ref b5), .val (.ref b5)] [(.ref b5)])) (fun t k => ?_) ?_
      · show Steps p.tables e below (T44.setTop (mkF m 243 #[.val (.int p1), .val (.int p2), .val (.int p3), .val (.int p4), .val (.int x0), .val (.int x1), .val (.int x2), .val (.ref b1), .val (.ref b5), .val (.int (1 : Int32)), .val (.int (0 : Int32)), .val (.ref b1), .val (.ref b5), .val (.ref b38), .val (.ref b38), .val (.int (1 : Int32)), .val (.ref b5), .val (.ref b5)] [(.int x2)])) _
        refine XS.iload X44.here hx rfl (hb hby at_243) rfl ?_
        show Steps p.tables e below (T44.setTop (mkF m 245 #[.val (.int p1), .val (.int p2), .val (.int p3), .val (.int p4), .val (.int x0), .val (.int x1), .val (.int x2), .val (.ref b1), .val (.ref b5), .val (.int (1 : Int32)), .val (.int (0 : Int32)), .val (.ref b1), .val (.ref b5), .val (.ref b38), .val (.ref b38), .val (.int (1 : Int32)), .val (.ref b5), .val (.ref b5)] [(.int x2), (.int x2)])) _
        refine XS.icmpNo X44.here hx rfl (hb hby at_245) rfl (teq rfl).2 ?_
        show Steps p.tables e below (T44.setTop (mkF m 248 #[.val (.int p1), .val (.int p2), .val (.int p3), .val (.int p4), .val (.int x0), .val (.int x1), .val (.int x2), .val (.ref b1), .val (.ref b5), .val (.int (1 : Int32)), .val (.int (0 : Int32)), .val (.ref b1), .val (.ref b5), .val (.ref b38), .val (.ref b38), .val (.int (1 : Int32)), .val (.ref b5), .val (.ref b5)] [])) _
        refine XS.iconst X44.here hx rfl (hb hby at_248) ?_
        show Steps p.tables e below (T44.setTop (mkF m 249 #[.val (.int p1), .val (.int p2), .val (.int p3), .val (.int p4), .val (.int x0), .val (.int x1), .val (.int x2), .val (.ref b1), .val (.ref b5), .val (.int (1 : Int32)), .val (.int (0 : Int32)), .val (.ref b1), .val (.ref b5), .val (.ref b38), .val (.ref b38), .val (.int (1 : Int32)), .val (.ref b5), .val (.ref b5)] [(.int (1 : Int32))])) _
        refine XS.goto X44.here hx rfl (pc0 := 249) (pc' := 253) rfl (hb hby at_249) (by decide) (by decide) ?_
        show Steps p.tables e below (T44.setTop (mkF m 253 #[.val (.int p1), .val (.int p2), .val (.int p3), .val (.int p4), .val (.int x0), .val (.int x1), .val (.int x2), .val (.ref b1), .val (.ref b5), .val (.int (1 : Int32)), .val (.int (0 : Int32)), .val (.ref b1), .val (.ref b5), .val (.ref b38), .val (.ref b38), .val (.int (1 : Int32)), .val (.ref b5), .val (.ref b5)] [(.int (1 : Int32))])) _
        refine XS.istore X44.here hx rfl (hb hby at_253) rfl (l' := #[.val (.int p1), .val (.int p2), .val (.int p3), .val (.int p4), .val (.int x0), .val (.int x1), .val (.int x2), .val (.ref b1), .val (.ref b5), .val (.int (1 : Int32)), .val (.int (0 : Int32)), .val (.ref b1), .val (.ref b5), .val (.ref b38), .val (.ref b38), .val (.int (1 : Int32)), .val (.ref b5), .val (.ref b5)]) rfl ?_
        show Steps p.tables e below (T44.setTop (mkF m 255 #[.val (.int p1), .val (.int p2), .val (.int p3), .val (.int p4), .val (.int x0), .val (.int x1), .val (.int x2), .val (.ref b1), .val (.ref b5), .val (.int (1 : Int32)), .val (.int (0 : Int32)), .val (.ref b1), .val (.ref b5), .val (.ref b38), .val (.ref b38), .val (.int (1 : Int32)), .val (.ref b5), .val (.ref b5)] [])) _
        refine XS.iload X44.here hx rfl (hb hby at_255) rfl ?_
        show Steps p.tables e below (T44.setTop (mkF m 257 #[.val (.int p1), .val (.int p2), .val (.int p3), .val (.int p4), .val (.int x0), .val (.int x1), .val (.int x2), .val (.ref b1), .val (.ref b5), .val (.int (1 : Int32)), .val (.int (0 : Int32)), .val (.ref b1), .val (.ref b5), .val (.ref b38), .val (.ref b38), .val (.int (1 : Int32)), .val (.ref b5), .val (.ref b5)] [(.int (1 : Int32))])) _
        refine XS.ifNo X44.here hx rfl (hb hby at_257) rfl ((if0 _ _).trans (feq (by decide)).1) ?_
        show Steps p.tables e below (T44.setTop (mkF m 260 #[.val (.int p1), .val (.int p2), .val (.int p3), .val (.int p4), .val (.int x0), .val (.int x1), .val (.int x2), .val (.ref b1), .val (.ref b5), .val (.int (1 : Int32)), .val (.int (0 : Int32)), .val (.ref b1), .val (.ref b5), .val (.ref b38), .val (.ref b38), .val (.int (1 : Int32)), .val (.ref b5), .val (.ref b5)] [])) _
        refine XS.aload X44.here hx rfl (hb hby at_260) rfl rfl ?_
        show Steps p.tables e below (T44.setTop (mkF m 262 #[.val (.int p1), .val (.int p2), .val (.int p3), .val (.int p4), .val (.int x0), .val (.int x1), .val (.int x2), .val (.ref b1), .val (.ref b5), .val (.int (1 : Int32)), .val (.int (0 : Int32)), .val (.ref b1), .val (.ref b5), .val (.ref b38), .val (.ref b38), .val (.int (1 : Int32)), .val (.ref b5), .val (.ref b5)] [(.ref b5)])) _
        exact k
      have st49 : ∀ target, Steps p.tables e below (T44.setTop (mkF m 263 #[.val (.int p1), .val (.int p2), .val (.int p3), .val (.int p4), .val (.int x0), .val (.int x1), .val (.int x2), .val (.ref b1), .val (.ref b5), .val (.int (1 : Int32)), .val (.int (0 : Int32)), .val (.ref b1), .val (.ref b5), .val (.ref b38), .val (.ref b38), .val (.int (1 : Int32)), .val (.ref b5), .val (.ref b5)] [(.int (0 : Int32))])) target → Steps p.tables e below (T44.setTop (mkF m 262 #[.val (.int p1), .val (.int p2), .val (.int p3), .val (.int p4), .val (.int x0), .val (.int x1), .val (.int x2), .val (.ref b1), .val (.ref b5), .val (.int (1 : Int32)), .val (.int (0 : Int32)), .val (.ref b1), .val (.ref b5), .val (.ref b38), .val (.ref b38), .val (.int (1 : Int32)), .val (.ref b5), .val (.ref b5)] [(.ref b5)])) target := by
        obtain ⟨cl, Ar, q, Sz, Nn, Hs, Gt⟩ := V5
        intro target kt
        refine X44.arraylength hx (by rw [e44]; exact Ar.1) (State.isArrayOf_alike hZ.alike Ar.2.1) (g := (mkF m 262 #[.val (.int p1), .val (.int p2), .val (.int p3), .val (.int p4), .val (.int x0), .val (.int x1), .val (.int x2), .val (.ref b1), .val (.ref b5), .val (.int (1 : Int32)), .val (.int (0 : Int32)), .val (.ref b1), .val (.ref b5), .val (.ref b38), .val (.ref b38), .val (.int (1 : Int32)), .val (.ref b5), .val (.ref b5)] [(.ref b5)])) rfl rfl (hb hby at_262) _ ?_
        rw [len_of Sz Nn]
        exact kt
      refine own_go (B := T44.setTop (mkF m 263 #[.val (.int p1), .val (.int p2), .val (.int p3), .val (.int p4), .val (.int x0), .val (.int x1), .val (.int x2), .val (.ref b1), .val (.ref b5), .val (.int (1 : Int32)), .val (.int (0 : Int32)), .val (.ref b1), .val (.ref b5), .val (.ref b38), .val (.ref b38), .val (.int (1 : Int32)), .val (.ref b5), .val (.ref b5)] [(.int (0 : Int32))])) st49 ?_
      refine own_go (B := T44.setTop (mkF m 280 #[.val (.int p1), .val (.int p2), .val (.int p3), .val (.int p4), .val (.int x0), .val (.int x1), .val (.int x2), .val (.ref b1), .val (.ref b5), .val (.int (1 : Int32)), .val (.int (0 : Int32)), .val (.ref b1), .val (.ref b5), .val (.ref b38), .val (.ref b38), .val (.int (1 : Int32)), .val (.ref b5), .val (.ref b5)] [(.ref b38)])) (fun t k => ?_) ?_
      · show Steps p.tables e below (T44.setTop (mkF m 263 #[.val (.int p1), .val (.int p2), .val (.int p3), .val (.int p4), .val (.int x0), .val (.int x1), .val (.int x2), .val (.ref b1), .val (.ref b5), .val (.int (1 : Int32)), .val (.int (0 : Int32)), .val (.ref b1), .val (.ref b5), .val (.ref b38), .val (.ref b38), .val (.int (1 : Int32)), .val (.ref b5), .val (.ref b5)] [(.int (0 : Int32))])) _
        refine XS.ifNo X44.here hx rfl (hb hby at_263) rfl ((if0 _ _).trans (teq (by decide)).2) ?_
        show Steps p.tables e below (T44.setTop (mkF m 266 #[.val (.int p1), .val (.int p2), .val (.int p3), .val (.int p4), .val (.int x0), .val (.int x1), .val (.int x2), .val (.ref b1), .val (.ref b5), .val (.int (1 : Int32)), .val (.int (0 : Int32)), .val (.ref b1), .val (.ref b5), .val (.ref b38), .val (.ref b38), .val (.int (1 : Int32)), .val (.ref b5), .val (.ref b5)] [])) _
        refine XS.iconst X44.here hx rfl (hb hby at_266) ?_
        show Steps p.tables e below (T44.setTop (mkF m 267 #[.val (.int p1), .val (.int p2), .val (.int p3), .val (.int p4), .val (.int x0), .val (.int x1), .val (.int x2), .val (.ref b1), .val (.ref b5), .val (.int (1 : Int32)), .val (.int (0 : Int32)), .val (.ref b1), .val (.ref b5), .val (.ref b38), .val (.ref b38), .val (.int (1 : Int32)), .val (.ref b5), .val (.ref b5)] [(.int (1 : Int32))])) _
        refine XS.goto X44.here hx rfl (pc0 := 267) (pc' := 271) rfl (hb hby at_267) (by decide) (by decide) ?_
        show Steps p.tables e below (T44.setTop (mkF m 271 #[.val (.int p1), .val (.int p2), .val (.int p3), .val (.int p4), .val (.int x0), .val (.int x1), .val (.int x2), .val (.ref b1), .val (.ref b5), .val (.int (1 : Int32)), .val (.int (0 : Int32)), .val (.ref b1), .val (.ref b5), .val (.ref b38), .val (.ref b38), .val (.int (1 : Int32)), .val (.ref b5), .val (.ref b5)] [(.int (1 : Int32))])) _
        refine XS.istore X44.here hx rfl (hb hby at_271) rfl (l' := #[.val (.int p1), .val (.int p2), .val (.int p3), .val (.int p4), .val (.int x0), .val (.int x1), .val (.int x2), .val (.ref b1), .val (.ref b5), .val (.int (1 : Int32)), .val (.int (0 : Int32)), .val (.ref b1), .val (.ref b5), .val (.ref b38), .val (.ref b38), .val (.int (1 : Int32)), .val (.ref b5), .val (.ref b5)]) rfl ?_
        show Steps p.tables e below (T44.setTop (mkF m 273 #[.val (.int p1), .val (.int p2), .val (.int p3), .val (.int p4), .val (.int x0), .val (.int x1), .val (.int x2), .val (.ref b1), .val (.ref b5), .val (.int (1 : Int32)), .val (.int (0 : Int32)), .val (.ref b1), .val (.ref b5), .val (.ref b38), .val (.ref b38), .val (.int (1 : Int32)), .val (.ref b5), .val (.ref b5)] [])) _
        refine XS.iload X44.here hx rfl (hb hby at_273) rfl ?_
        show Steps p.tables e below (T44.setTop (mkF m 275 #[.val (.int p1), .val (.int p2), .val (.int p3), .val (.int p4), .val (.int x0), .val (.int x1), .val (.int x2), .val (.ref b1), .val (.ref b5), .val (.int (1 : Int32)), .val (.int (0 : Int32)), .val (.ref b1), .val (.ref b5), .val (.ref b38), .val (.ref b38), .val (.int (1 : Int32)), .val (.ref b5), .val (.ref b5)] [(.int (1 : Int32))])) _
        refine XS.ifNo X44.here hx rfl (hb hby at_275) rfl ((if0 _ _).trans (feq (by decide)).1) ?_
        show Steps p.tables e below (T44.setTop (mkF m 278 #[.val (.int p1), .val (.int p2), .val (.int p3), .val (.int p4), .val (.int x0), .val (.int x1), .val (.int x2), .val (.ref b1), .val (.ref b5), .val (.int (1 : Int32)), .val (.int (0 : Int32)), .val (.ref b1), .val (.ref b5), .val (.ref b38), .val (.ref b38), .val (.int (1 : Int32)), .val (.ref b5), .val (.ref b5)] [])) _
        refine XS.aload X44.here hx rfl (hb hby at_278) rfl rfl ?_
        show Steps p.tables e below (T44.setTop (mkF m 280 #[.val (.int p1), .val (.int p2), .val (.int p3), .val (.int p4), .val (.int x0), .val (.int x1), .val (.int x2), .val (.ref b1), .val (.ref b5), .val (.int (1 : Int32)), .val (.int (0 : Int32)), .val (.ref b1), .val (.ref b5), .val (.ref b38), .val (.ref b38), .val (.int (1 : Int32)), .val (.ref b5), .val (.ref b5)] [(.ref b38)])) _
        exact k
      -- pc 280: com/example/fixity/fixity/engine/AccountRequest.role
      obtain ⟨cq50, kq50, q50a, q50b, q50c⟩ := isOf hZ e44 A38
      obtain ⟨_, _, ⟨T50, L50, k50, n50⟩, -, X50, ⟨Lc50, hQ50, l50, y50, z50⟩, st50⟩ := X44.virtualBack hx (y := (⟨"com/example/fixity/fixity/engine/AccountRequest", "role", "()Ljava/util/Optional;"⟩ : MethodName)) (z := (⟨"com/example/fixity/fixity/engine/AccountRequest", "role", "()Ljava/util/Optional;"⟩ : MethodName)) hown (mvT hZ (hw _ (List.mem_of_getElem? (i := 58) rfl))) (mvT hZ (hw _ (List.mem_of_getElem? (i := 59) rfl))) (notFace_of_selects (args := #[]) (mvT hZ (hw _ (List.mem_of_getElem? (i := 61) rfl)))) (mvT hZ (hw _ (List.mem_of_getElem? (i := 61) rfl))) (mvT hZ (hw _ (List.mem_of_getElem? (i := 60) rfl))) (by decide) (backOf (W := 0) (rmG0role l Z a0 hw [] b38 wE T42.heap n0 O Gq41_2 S_E) hZ (hw _ (List.mem_of_getElem? (i := 62) rfl)) (hw _ (List.mem_of_getElem? (i := 4) rfl)) (by decide) (by decide)) q50a q50c (g := (mkF m 280 #[.val (.int p1), .val (.int p2), .val (.int p3), .val (.int p4), .val (.int x0), .val (.int x1), .val (.int x2), .val (.ref b1), .val (.ref b5), .val (.int (1 : Int32)), .val (.int (0 : Int32)), .val (.ref b1), .val (.ref b5), .val (.ref b38), .val (.ref b38), .val (.int (1 : Int32)), .val (.ref b5), .val (.ref b5)] [(.ref b38)])) rfl (by rw [hml]; rfl) (Steps.refl _) (argsL := []) (rest := []) (lenOf pd_5 rfl) rfl (by show 2 * 0 + _ ≤ _; exact Nat.le_of_eq rfl) (hb hby at_280) (fun _ hWm => ⟨rfl, e44, (by decide : 8 + 0 ≤ _), (by decide : 83 + 0 ≤ _)⟩)
      dsimp only [Pt.U, Pt.locs, Pt.cells, Pt.slots] at X50 l50 y50 z50 st50 hQ50
      subst l50 y50 z50
      obtain ⟨rfl, Nq50, Kq50⟩ := hQ50
      replace N := Fr.app N Nq50
      refine own_go (B := T50.setTop (mkF m 283 #[.val (.int p1), .val (.int p2), .val (.int p3), .val (.int p4), .val (.int x0), .val (.int x1), .val (.int x2), .val (.ref b1), .val (.ref b5), .val (.int (1 : Int32)), .val (.int (0 : Int32)), .val (.ref b1), .val (.ref b5), .val (.ref b38), .val (.ref b38), .val (.int (1 : Int32)), .val (.ref b5), .val (.ref b5)] [(.ref wE)])) (fun t k => st50.trans k) ?_
      refine own_go (B := T50.setTop (mkF m 284 #[.val (.int p1), .val (.int p2), .val (.int p3), .val (.int p4), .val (.int x0), .val (.int x1), .val (.int x2), .val (.ref b1), .val (.ref b5), .val (.int (1 : Int32)), .val (.int (0 : Int32)), .val (.ref b1), .val (.ref b5), .val (.ref b38), .val (.ref b38), .val (.int (1 : Int32)), .val (.ref b5), .val (.ref b5)] [.null, (.ref wE)])) (fun t k => ?_) ?_
      · show Steps p.tables e below (T50.setTop (mkF m 283 #[.val (.int p1), .val (.int p2), .val (.int p3), .val (.int p4), .val (.int x0), .val (.int x1), .val (.int x2), .val (.ref b1), .val (.ref b5), .val (.int (1 : Int32)), .val (.int (0 : Int32)), .val (.ref b1), .val (.ref b5), .val (.ref b38), .val (.ref b38), .val (.int (1 : Int32)), .val (.ref b5), .val (.ref b5)] [(.ref wE)])) _
        refine XS.aconstNull X50.here hx rfl (hb hby at_283) ?_
        show Steps p.tables e below (T50.setTop (mkF m 284 #[.val (.int p1), .val (.int p2), .val (.int p3), .val (.int p4), .val (.int x0), .val (.int x1), .val (.int x2), .val (.ref b1), .val (.ref b5), .val (.int (1 : Int32)), .val (.int (0 : Int32)), .val (.ref b1), .val (.ref b5), .val (.ref b38), .val (.ref b38), .val (.int (1 : Int32)), .val (.ref b5), .val (.ref b5)] [.null, (.ref wE)])) _
        exact k
      -- pc 284: java/util/Optional.orElse
      obtain ⟨cq51, kq51, q51a, q51b, q51c⟩ := isOf hZ Kq50 (E_E.ext O.2)
      obtain ⟨_, _, ⟨T51, L51, k51, n51⟩, -, X51, ⟨Lc51, hQ51, l51, y51, z51⟩, st51⟩ := X50.virtualBack hx (y := (⟨"java/util/Optional", "orElse", "(Ljava/lang/Object;)Ljava/lang/Object;"⟩ : MethodName)) (z := (⟨"java/util/Optional", "orElse", "(Ljava/lang/Object;)Ljava/lang/Object;"⟩ : MethodName)) hown (mvT hZ (hw _ (List.mem_of_getElem? (i := 52) rfl))) (mvT hZ (hw _ (List.mem_of_getElem? (i := 53) rfl))) (notFace_of_selects (args := #[]) (mvT hZ (hw _ (List.mem_of_getElem? (i := 55) rfl)))) (mvT hZ (hw _ (List.mem_of_getElem? (i := 55) rfl))) (mvT hZ (hw _ (List.mem_of_getElem? (i := 54) rfl))) (by decide) (backOf (W := 0) (rmOE0 l Z a0 hw [] wE T42.heap n0 O (F_E.ext O.2)) hZ (hw _ (List.mem_of_getElem? (i := 56) rfl)) (hw _ (List.mem_of_getElem? (i := 41) rfl)) (by decide) (by decide)) q51a q51c (g := (mkF m 284 #[.val (.int p1), .val (.int p2), .val (.int p3), .val (.int p4), .val (.int x0), .val (.int x1), .val (.int x2), .val (.ref b1), .val (.ref b5), .val (.int (1 : Int32)), .val (.int (0 : Int32)), .val (.ref b1), .val (.ref b5), .val (.ref b38), .val (.ref b38), .val (.int (1 : Int32)), .val (.ref b5), .val (.ref b5)] [.null, (.ref wE)])) rfl (by rw [hml]; rfl) (Steps.refl _) (argsL := [.null]) (rest := []) (lenOf pd_6 rfl) rfl (by show 2 * 0 + _ ≤ _; exact Nat.le_of_eq rfl) (hb hby at_284) (fun _ hWm => ⟨rfl, Kq50, (by decide : 8 + 0 ≤ _), (by decide : 83 + 0 ≤ _)⟩)
      dsimp only [Pt.U, Pt.locs, Pt.cells, Pt.slots] at X51 l51 y51 z51 st51 hQ51
      subst l51 y51 z51
      obtain ⟨rfl, Nq51, Kq51⟩ := hQ51
      replace N := Fr.app N Nq51
      refine own_go (B := T51.setTop (mkF m 287 #[.val (.int p1), .val (.int p2), .val (.int p3), .val (.int p4), .val (.int x0), .val (.int x1), .val (.int x2), .val (.ref b1), .val (.ref b5), .val (.int (1 : Int32)), .val (.int (0 : Int32)), .val (.ref b1), .val (.ref b5), .val (.ref b38), .val (.ref b38), .val (.int (1 : Int32)), .val (.ref b5), .val (.ref b5)] [.null])) (fun t k => st51.trans k) ?_
      refine own_go (B := T51.setTop (mkF m 304 #[.val (.int p1), .val (.int p2), .val (.int p3), .val (.int p4), .val (.int x0), .val (.int x1), .val (.int x2), .val (.ref b1), .val (.ref b5), .val (.int (1 : Int32)), .val (.int (0 : Int32)), .val (.ref b1), .val (.ref b5), .val (.ref b38), .val (.ref b38), .val (.int (1 : Int32)), .val (.ref b5), .val (.ref b5)] [(.ref b38)])) (fun t k => ?_) ?_
      · show Steps p.tables e below (T51.setTop (mkF m 287 #[.val (.int p1), .val (.int p2), .val (.int p3), .val (.int p4), .val (.int x0), .val (.int x1), .val (.int x2), .val (.ref b1), .val (.ref b5), .val (.int (1 : Int32)), .val (.int (0 : Int32)), .val (.ref b1), .val (.ref b5), .val (.ref b38), .val (.ref b38), .val (.int (1 : Int32)), .val (.ref b5), .val (.ref b5)] [.null])) _
        refine XT.ifnonnullNo X51.here hx rfl (hb hby at_287) rfl ?_
        show Steps p.tables e below (T51.setTop (mkF m 290 #[.val (.int p1), .val (.int p2), .val (.int p3), .val (.int p4), .val (.int x0), .val (.int x1), .val (.int x2), .val (.ref b1), .val (.ref b5), .val (.int (1 : Int32)), .val (.int (0 : Int32)), .val (.ref b1), .val (.ref b5), .val (.ref b38), .val (.ref b38), .val (.int (1 : Int32)), .val (.ref b5), .val (.ref b5)] [])) _
        refine XS.iconst X51.here hx rfl (hb hby at_290) ?_
        show Steps p.tables e below (T51.setTop (mkF m 291 #[.val (.int p1), .val (.int p2), .val (.int p3), .val (.int p4), .val (.int x0), .val (.int x1), .val (.int x2), .val (.ref b1), .val (.ref b5), .val (.int (1 : Int32)), .val (.int (0 : Int32)), .val (.ref b1), .val (.ref b5), .val (.ref b38), .val (.ref b38), .val (.int (1 : Int32)), .val (.ref b5), .val (.ref b5)] [(.int (1 : Int32))])) _
        refine XS.goto X51.here hx rfl (pc0 := 291) (pc' := 295) rfl (hb hby at_291) (by decide) (by decide) ?_
        show Steps p.tables e below (T51.setTop (mkF m 295 #[.val (.int p1), .val (.int p2), .val (.int p3), .val (.int p4), .val (.int x0), .val (.int x1), .val (.int x2), .val (.ref b1), .val (.ref b5), .val (.int (1 : Int32)), .val (.int (0 : Int32)), .val (.ref b1), .val (.ref b5), .val (.ref b38), .val (.ref b38), .val (.int (1 : Int32)), .val (.ref b5), .val (.ref b5)] [(.int (1 : Int32))])) _
        refine XS.istore X51.here hx rfl (hb hby at_295) rfl (l' := #[.val (.int p1), .val (.int p2), .val (.int p3), .val (.int p4), .val (.int x0), .val (.int x1), .val (.int x2), .val (.ref b1), .val (.ref b5), .val (.int (1 : Int32)), .val (.int (0 : Int32)), .val (.ref b1), .val (.ref b5), .val (.ref b38), .val (.ref b38), .val (.int (1 : Int32)), .val (.ref b5), .val (.ref b5)]) rfl ?_
        show Steps p.tables e below (T51.setTop (mkF m 297 #[.val (.int p1), .val (.int p2), .val (.int p3), .val (.int p4), .val (.int x0), .val (.int x1), .val (.int x2), .val (.ref b1), .val (.ref b5), .val (.int (1 : Int32)), .val (.int (0 : Int32)), .val (.ref b1), .val (.ref b5), .val (.ref b38), .val (.ref b38), .val (.int (1 : Int32)), .val (.ref b5), .val (.ref b5)] [])) _
        refine XS.iload X51.here hx rfl (hb hby at_297) rfl ?_
        show Steps p.tables e below (T51.setTop (mkF m 299 #[.val (.int p1), .val (.int p2), .val (.int p3), .val (.int p4), .val (.int x0), .val (.int x1), .val (.int x2), .val (.ref b1), .val (.ref b5), .val (.int (1 : Int32)), .val (.int (0 : Int32)), .val (.ref b1), .val (.ref b5), .val (.ref b38), .val (.ref b38), .val (.int (1 : Int32)), .val (.ref b5), .val (.ref b5)] [(.int (1 : Int32))])) _
        refine XS.ifNo X51.here hx rfl (hb hby at_299) rfl ((if0 _ _).trans (feq (by decide)).1) ?_
        show Steps p.tables e below (T51.setTop (mkF m 302 #[.val (.int p1), .val (.int p2), .val (.int p3), .val (.int p4), .val (.int x0), .val (.int x1), .val (.int x2), .val (.ref b1), .val (.ref b5), .val (.int (1 : Int32)), .val (.int (0 : Int32)), .val (.ref b1), .val (.ref b5), .val (.ref b38), .val (.ref b38), .val (.int (1 : Int32)), .val (.ref b5), .val (.ref b5)] [])) _
        refine XS.aload X51.here hx rfl (hb hby at_302) rfl rfl ?_
        show Steps p.tables e below (T51.setTop (mkF m 304 #[.val (.int p1), .val (.int p2), .val (.int p3), .val (.int p4), .val (.int x0), .val (.int x1), .val (.int x2), .val (.ref b1), .val (.ref b5), .val (.int (1 : Int32)), .val (.int (0 : Int32)), .val (.ref b1), .val (.ref b5), .val (.ref b38), .val (.ref b38), .val (.int (1 : Int32)), .val (.ref b5), .val (.ref b5)] [(.ref b38)])) _
        exact k
      -- pc 304: com/example/fixity/fixity/engine/AccountRequest.unreadable
      obtain ⟨cq52, kq52, q52a, q52b, q52c⟩ := isOf hZ Kq51 A38
      obtain ⟨_, _, ⟨T52, L52, k52, n52⟩, -, X52, ⟨Lc52, hQ52, l52, y52, z52⟩, st52⟩ := X51.virtualBack hx (y := (⟨"com/example/fixity/fixity/engine/AccountRequest", "unreadable", "()Ljava/util/Optional;"⟩ : MethodName)) (z := (⟨"com/example/fixity/fixity/engine/AccountRequest", "unreadable", "()Ljava/util/Optional;"⟩ : MethodName)) hown (mvT hZ (hw _ (List.mem_of_getElem? (i := 66) rfl))) (mvT hZ (hw _ (List.mem_of_getElem? (i := 67) rfl))) (notFace_of_selects (args := #[]) (mvT hZ (hw _ (List.mem_of_getElem? (i := 69) rfl)))) (mvT hZ (hw _ (List.mem_of_getElem? (i := 69) rfl))) (mvT hZ (hw _ (List.mem_of_getElem? (i := 68) rfl))) (by decide) (backOf (W := 0) (rmG0unreadable l Z a0 hw [] b38 wE T42.heap n0 O Gq41_1 S_E) hZ (hw _ (List.mem_of_getElem? (i := 70) rfl)) (hw _ (List.mem_of_getElem? (i := 4) rfl)) (by decide) (by decide)) q52a q52c (g := (mkF m 304 #[.val (.int p1), .val (.int p2), .val (.int p3), .val (.int p4), .val (.int x0), .val (.int x1), .val (.int x2), .val (.ref b1), .val (.ref b5), .val (.int (1 : Int32)), .val (.int (0 : Int32)), .val (.ref b1), .val (.ref b5), .val (.ref b38), .val (.ref b38), .val (.int (1 : Int32)), .val (.ref b5), .val (.ref b5)] [(.ref b38)])) rfl (by rw [hml]; rfl) (Steps.refl _) (argsL := []) (rest := []) (lenOf pd_5 rfl) rfl (by show 2 * 0 + _ ≤ _; exact Nat.le_of_eq rfl) (hb hby at_304) (fun _ hWm => ⟨rfl, Kq51, (by decide : 8 + 0 ≤ _), (by decide : 83 + 0 ≤ _)⟩)
      dsimp only [Pt.U, Pt.locs, Pt.cells, Pt.slots] at X52 l52 y52 z52 st52 hQ52
      subst l52 y52 z52
      obtain ⟨rfl, Nq52, Kq52⟩ := hQ52
      replace N := Fr.app N Nq52
      refine own_go (B := T52.setTop (mkF m 307 #[.val (.int p1), .val (.int p2), .val (.int p3), .val (.int p4), .val (.int x0), .val (.int x1), .val (.int x2), .val (.ref b1), .val (.ref b5), .val (.int (1 : Int32)), .val (.int (0 : Int32)), .val (.ref b1), .val (.ref b5), .val (.ref b38), .val (.ref b38), .val (.int (1 : Int32)), .val (.ref b5), .val (.ref b5)] [(.ref wE)])) (fun t k => st52.trans k) ?_
      refine own_go (B := T52.setTop (mkF m 308 #[.val (.int p1), .val (.int p2), .val (.int p3), .val (.int p4), .val (.int x0), .val (.int x1), .val (.int x2), .val (.ref b1), .val (.ref b5), .val (.int (1 : Int32)), .val (.int (0 : Int32)), .val (.ref b1), .val (.ref b5), .val (.ref b38), .val (.ref b38), .val (.int (1 : Int32)), .val (.ref b5), .val (.ref b5)] [.null, (.ref wE)])) (fun t k => ?_) ?_
      · show Steps p.tables e below (T52.setTop (mkF m 307 #[.val (.int p1), .val (.int p2), .val (.int p3), .val (.int p4), .val (.int x0), .val (.int x1), .val (.int x2), .val (.ref b1), .val (.ref b5), .val (.int (1 : Int32)), .val (.int (0 : Int32)), .val (.ref b1), .val (.ref b5), .val (.ref b38), .val (.ref b38), .val (.int (1 : Int32)), .val (.ref b5), .val (.ref b5)] [(.ref wE)])) _
        refine XS.aconstNull X52.here hx rfl (hb hby at_307) ?_
        show Steps p.tables e below (T52.setTop (mkF m 308 #[.val (.int p1), .val (.int p2), .val (.int p3), .val (.int p4), .val (.int x0), .val (.int x1), .val (.int x2), .val (.ref b1), .val (.ref b5), .val (.int (1 : Int32)), .val (.int (0 : Int32)), .val (.ref b1), .val (.ref b5), .val (.ref b38), .val (.ref b38), .val (.int (1 : Int32)), .val (.ref b5), .val (.ref b5)] [.null, (.ref wE)])) _
        exact k
      -- pc 308: java/util/Optional.orElse
      obtain ⟨cq53, kq53, q53a, q53b, q53c⟩ := isOf hZ Kq52 (E_E.ext O.2)
      obtain ⟨_, _, ⟨T53, L53, k53, n53⟩, -, X53, ⟨Lc53, hQ53, l53, y53, z53⟩, st53⟩ := X52.virtualBack hx (y := (⟨"java/util/Optional", "orElse", "(Ljava/lang/Object;)Ljava/lang/Object;"⟩ : MethodName)) (z := (⟨"java/util/Optional", "orElse", "(Ljava/lang/Object;)Ljava/lang/Object;"⟩ : MethodName)) hown (mvT hZ (hw _ (List.mem_of_getElem? (i := 52) rfl))) (mvT hZ (hw _ (List.mem_of_getElem? (i := 53) rfl))) (notFace_of_selects (args := #[]) (mvT hZ (hw _ (List.mem_of_getElem? (i := 55) rfl)))) (mvT hZ (hw _ (List.mem_of_getElem? (i := 55) rfl))) (mvT hZ (hw _ (List.mem_of_getElem? (i := 54) rfl))) (by decide) (backOf (W := 0) (rmOE0 l Z a0 hw [] wE T42.heap n0 O (F_E.ext O.2)) hZ (hw _ (List.mem_of_getElem? (i := 56) rfl)) (hw _ (List.mem_of_getElem? (i := 41) rfl)) (by decide) (by decide)) q53a q53c (g := (mkF m 308 #[.val (.int p1), .val (.int p2), .val (.int p3), .val (.int p4), .val (.int x0), .val (.int x1), .val (.int x2), .val (.ref b1), .val (.ref b5), .val (.int (1 : Int32)), .val (.int (0 : Int32)), .val (.ref b1), .val (.ref b5), .val (.ref b38), .val (.ref b38), .val (.int (1 : Int32)), .val (.ref b5), .val (.ref b5)] [.null, (.ref wE)])) rfl (by rw [hml]; rfl) (Steps.refl _) (argsL := [.null]) (rest := []) (lenOf pd_6 rfl) rfl (by show 2 * 0 + _ ≤ _; exact Nat.le_of_eq rfl) (hb hby at_308) (fun _ hWm => ⟨rfl, Kq52, (by decide : 8 + 0 ≤ _), (by decide : 83 + 0 ≤ _)⟩)
      dsimp only [Pt.U, Pt.locs, Pt.cells, Pt.slots] at X53 l53 y53 z53 st53 hQ53
      subst l53 y53 z53
      obtain ⟨rfl, Nq53, Kq53⟩ := hQ53
      replace N := Fr.app N Nq53
      refine own_go (B := T53.setTop (mkF m 311 #[.val (.int p1), .val (.int p2), .val (.int p3), .val (.int p4), .val (.int x0), .val (.int x1), .val (.int x2), .val (.ref b1), .val (.ref b5), .val (.int (1 : Int32)), .val (.int (0 : Int32)), .val (.ref b1), .val (.ref b5), .val (.ref b38), .val (.ref b38), .val (.int (1 : Int32)), .val (.ref b5), .val (.ref b5)] [.null])) (fun t k => st53.trans k) ?_
      refine own_go (B := T53.setTop (mkF m 323 #[.val (.int p1), .val (.int p2), .val (.int p3), .val (.int p4), .val (.int x0), .val (.int x1), .val (.int x2), .val (.ref b1), .val (.ref b5), .val (.int (1 : Int32)), .val (.int (0 : Int32)), .val (.ref b1), .val (.ref b5), .val (.ref b38), .val (.ref b38), .val (.int (1 : Int32)), .val (.ref b5), .val (.ref b5)] [(.int (1 : Int32))])) (fun t k => ?_) ?_
      · show Steps p.tables e below (T53.setTop (mkF m 311 #[.val (.int p1), .val (.int p2), .val (.int p3), .val (.int p4), .val (.int x0), .val (.int x1), .val (.int x2), .val (.ref b1), .val (.ref b5), .val (.int (1 : Int32)), .val (.int (0 : Int32)), .val (.ref b1), .val (.ref b5), .val (.ref b38), .val (.ref b38), .val (.int (1 : Int32)), .val (.ref b5), .val (.ref b5)] [.null])) _
        refine XT.ifnonnullNo X53.here hx rfl (hb hby at_311) rfl ?_
        show Steps p.tables e below (T53.setTop (mkF m 314 #[.val (.int p1), .val (.int p2), .val (.int p3), .val (.int p4), .val (.int x0), .val (.int x1), .val (.int x2), .val (.ref b1), .val (.ref b5), .val (.int (1 : Int32)), .val (.int (0 : Int32)), .val (.ref b1), .val (.ref b5), .val (.ref b38), .val (.ref b38), .val (.int (1 : Int32)), .val (.ref b5), .val (.ref b5)] [])) _
        refine XS.iconst X53.here hx rfl (hb hby at_314) ?_
        show Steps p.tables e below (T53.setTop (mkF m 315 #[.val (.int p1), .val (.int p2), .val (.int p3), .val (.int p4), .val (.int x0), .val (.int x1), .val (.int x2), .val (.ref b1), .val (.ref b5), .val (.int (1 : Int32)), .val (.int (0 : Int32)), .val (.ref b1), .val (.ref b5), .val (.ref b38), .val (.ref b38), .val (.int (1 : Int32)), .val (.ref b5), .val (.ref b5)] [(.int (1 : Int32))])) _
        refine XS.goto X53.here hx rfl (pc0 := 315) (pc' := 319) rfl (hb hby at_315) (by decide) (by decide) ?_
        show Steps p.tables e below (T53.setTop (mkF m 319 #[.val (.int p1), .val (.int p2), .val (.int p3), .val (.int p4), .val (.int x0), .val (.int x1), .val (.int x2), .val (.ref b1), .val (.ref b5), .val (.int (1 : Int32)), .val (.int (0 : Int32)), .val (.ref b1), .val (.ref b5), .val (.ref b38), .val (.ref b38), .val (.int (1 : Int32)), .val (.ref b5), .val (.ref b5)] [(.int (1 : Int32))])) _
        refine XS.istore X53.here hx rfl (hb hby at_319) rfl (l' := #[.val (.int p1), .val (.int p2), .val (.int p3), .val (.int p4), .val (.int x0), .val (.int x1), .val (.int x2), .val (.ref b1), .val (.ref b5), .val (.int (1 : Int32)), .val (.int (0 : Int32)), .val (.ref b1), .val (.ref b5), .val (.ref b38), .val (.ref b38), .val (.int (1 : Int32)), .val (.ref b5), .val (.ref b5)]) rfl ?_
        show Steps p.tables e below (T53.setTop (mkF m 321 #[.val (.int p1), .val (.int p2), .val (.int p3), .val (.int p4), .val (.int x0), .val (.int x1), .val (.int x2), .val (.ref b1), .val (.ref b5), .val (.int (1 : Int32)), .val (.int (0 : Int32)), .val (.ref b1), .val (.ref b5), .val (.ref b38), .val (.ref b38), .val (.int (1 : Int32)), .val (.ref b5), .val (.ref b5)] [])) _
        refine XS.iload X53.here hx rfl (hb hby at_321) rfl ?_
        show Steps p.tables e below (T53.setTop (mkF m 323 #[.val (.int p1), .val (.int p2), .val (.int p3), .val (.int p4), .val (.int x0), .val (.int x1), .val (.int x2), .val (.ref b1), .val (.ref b5), .val (.int (1 : Int32)), .val (.int (0 : Int32)), .val (.ref b1), .val (.ref b5), .val (.ref b38), .val (.ref b38), .val (.int (1 : Int32)), .val (.ref b5), .val (.ref b5)] [(.int (1 : Int32))])) _
        exact k
      obtain ⟨fs, hr, hrun, hended, hEnd⟩ := X53.leaveW hS (by rw [Kq53]; exact hk) (v := some (.int (1 : Int32))) (fun h => by rw [Bd.returns] at h; cases h)
      refine ⟨_, _, retN X53 hx (t := .boolean) Bd.returns (by simp) (hb hby at_323) hr, hfin _ _ ⟨hrun, hended, _, _, rfl, ?_, hEnd.1, hEnd.2.1, hEnd.2.2.1, hEnd.2.2.2.mono (by decide) (by decide)⟩⟩
      show Q0 Z p1 p2 p3 p4 wE h0 n0 _ T53.heap _
      rw [Kq53]
      exact ⟨rfl, N⟩
    · refine own_go (B := T5.setTop (mkF m 103 #[.val (.int p1), .val (.int p2), .val (.int p3), .val (.int p4), .val (.int x0), .val (.int x1), .val (.int x2), .val (.ref b1), .val (.ref b5), .val (.int (1 : Int32)), .val (.int (1 : Int32)), .val (.ref b5), .val (.ref b1), .unset, .unset, .unset, .unset, .unset] [])) (fun t k => ?_) ?_
      · show Steps p.tables e below (T5.setTop (mkF m 49 #[.val (.int p1), .val (.int p2), .val (.int p3), .val (.int p4), .val (.int x0), .val (.int x1), .val (.int x2), .val (.ref b1), .val (.ref b5), .unset, .unset, .unset, .unset, .unset, .unset, .unset, .unset, .unset] [])) _
        refine XS.iloadN X5.here hx rfl (hb hby at_49) rfl ?_
        show Steps p.tables e below (T5.setTop (mkF m 50 #[.val (.int p1), .val (.int p2), .val (.int p3), .val (.int p4), .val (.int x0), .val (.int x1), .val (.int x2), .val (.ref b1), .val (.ref b5), .unset, .unset, .unset, .unset, .unset, .unset, .unset, .unset, .unset] [(.int p4)])) _
        refine XS.iconst X5.here hx rfl (hb hby at_50) ?_
        show Steps p.tables e below (T5.setTop (mkF m 51 #[.val (.int p1), .val (.int p2), .val (.int p3), .val (.int p4), .val (.int x0), .val (.int x1), .val (.int x2), .val (.ref b1), .val (.ref b5), .unset, .unset, .unset, .unset, .unset, .unset, .unset, .unset, .unset] [(.int (1 : Int32)), (.int p4)])) _
        refine XS.iand X5.here hx rfl (hb hby at_51) rfl ?_
        show Steps p.tables e below (T5.setTop (mkF m 52 #[.val (.int p1), .val (.int p2), .val (.int p3), .val (.int p4), .val (.int x0), .val (.int x1), .val (.int x2), .val (.ref b1), .val (.ref b5), .unset, .unset, .unset, .unset, .unset, .unset, .unset, .unset, .unset] [(.int (p4 &&& (1 : Int32)))])) _
        refine XS.ifNo X5.here hx rfl (hb hby at_52) rfl ((if0 _ _).trans (feq ka).1) ?_
        show Steps p.tables e below (T5.setTop (mkF m 55 #[.val (.int p1), .val (.int p2), .val (.int p3), .val (.int p4), .val (.int x0), .val (.int x1), .val (.int x2), .val (.ref b1), .val (.ref b5), .unset, .unset, .unset, .unset, .unset, .unset, .unset, .unset, .unset] [])) _
        refine XS.iconst X5.here hx rfl (hb hby at_55) ?_
        show Steps p.tables e below (T5.setTop (mkF m 56 #[.val (.int p1), .val (.int p2), .val (.int p3), .val (.int p4), .val (.int x0), .val (.int x1), .val (.int x2), .val (.ref b1), .val (.ref b5), .unset, .unset, .unset, .unset, .unset, .unset, .unset, .unset, .unset] [(.int (1 : Int32))])) _
        refine XS.goto X5.here hx rfl (pc0 := 56) (pc' := 60) rfl (hb hby at_56) (by decide) (by decide) ?_
        show Steps p.tables e below (T5.setTop (mkF m 60 #[.val (.int p1), .val (.int p2), .val (.int p3), .val (.int p4), .val (.int x0), .val (.int x1), .val (.int x2), .val (.ref b1), .val (.ref b5), .unset, .unset, .unset, .unset, .unset, .unset, .unset, .unset, .unset] [(.int (1 : Int32))])) _
        refine XS.istore X5.here hx rfl (hb hby at_60) rfl (l' := #[.val (.int p1), .val (.int p2), .val (.int p3), .val (.int p4), .val (.int x0), .val (.int x1), .val (.int x2), .val (.ref b1), .val (.ref b5), .val (.int (1 : Int32)), .unset, .unset, .unset, .unset, .unset, .unset, .unset, .unset]) rfl ?_
        show Steps p.tables e below (T5.setTop (mkF m 62 #[.val (.int p1), .val (.int p2), .val (.int p3), .val (.int p4), .val (.int x0), .val (.int x1), .val (.int x2), .val (.ref b1), .val (.ref b5), .val (.int (1 : Int32)), .unset, .unset, .unset, .unset, .unset, .unset, .unset, .unset] [])) _
        refine XS.iloadN X5.here hx rfl (hb hby at_62) rfl ?_
        show Steps p.tables e below (T5.setTop (mkF m 63 #[.val (.int p1), .val (.int p2), .val (.int p3), .val (.int p4), .val (.int x0), .val (.int x1), .val (.int x2), .val (.ref b1), .val (.ref b5), .val (.int (1 : Int32)), .unset, .unset, .unset, .unset, .unset, .unset, .unset, .unset] [(.int p4)])) _
        refine XS.iconst X5.here hx rfl (hb hby at_63) ?_
        show Steps p.tables e below (T5.setTop (mkF m 64 #[.val (.int p1), .val (.int p2), .val (.int p3), .val (.int p4), .val (.int x0), .val (.int x1), .val (.int x2), .val (.ref b1), .val (.ref b5), .val (.int (1 : Int32)), .unset, .unset, .unset, .unset, .unset, .unset, .unset, .unset] [(.int (2 : Int32)), (.int p4)])) _
        refine XS.iand X5.here hx rfl (hb hby at_64) rfl ?_
        show Steps p.tables e below (T5.setTop (mkF m 65 #[.val (.int p1), .val (.int p2), .val (.int p3), .val (.int p4), .val (.int x0), .val (.int x1), .val (.int x2), .val (.ref b1), .val (.ref b5), .val (.int (1 : Int32)), .unset, .unset, .unset, .unset, .unset, .unset, .unset, .unset] [(.int (p4 &&& (2 : Int32)))])) _
        refine XS.ifNo X5.here hx rfl (hb hby at_65) rfl ((if0 _ _).trans (feq kb).1) ?_
        show Steps p.tables e below (T5.setTop (mkF m 68 #[.val (.int p1), .val (.int p2), .val (.int p3), .val (.int p4), .val (.int x0), .val (.int x1), .val (.int x2), .val (.ref b1), .val (.ref b5), .val (.int (1 : Int32)), .unset, .unset, .unset, .unset, .unset, .unset, .unset, .unset] [])) _
        refine XS.iconst X5.here hx rfl (hb hby at_68) ?_
        show Steps p.tables e below (T5.setTop (mkF m 69 #[.val (.int p1), .val (.int p2), .val (.int p3), .val (.int p4), .val (.int x0), .val (.int x1), .val (.int x2), .val (.ref b1), .val (.ref b5), .val (.int (1 : Int32)), .unset, .unset, .unset, .unset, .unset, .unset, .unset, .unset] [(.int (1 : Int32))])) _
        refine XS.goto X5.here hx rfl (pc0 := 69) (pc' := 73) rfl (hb hby at_69) (by decide) (by decide) ?_
        show Steps p.tables e below (T5.setTop (mkF m 73 #[.val (.int p1), .val (.int p2), .val (.int p3), .val (.int p4), .val (.int x0), .val (.int x1), .val (.int x2), .val (.ref b1), .val (.ref b5), .val (.int (1 : Int32)), .unset, .unset, .unset, .unset, .unset, .unset, .unset, .unset] [(.int (1 : Int32))])) _
        refine XS.istore X5.here hx rfl (hb hby at_73) rfl (l' := #[.val (.int p1), .val (.int p2), .val (.int p3), .val (.int p4), .val (.int x0), .val (.int x1), .val (.int x2), .val (.ref b1), .val (.ref b5), .val (.int (1 : Int32)), .val (.int (1 : Int32)), .unset, .unset, .unset, .unset, .unset, .unset, .unset]) rfl ?_
        show Steps p.tables e below (T5.setTop (mkF m 75 #[.val (.int p1), .val (.int p2), .val (.int p3), .val (.int p4), .val (.int x0), .val (.int x1), .val (.int x2), .val (.ref b1), .val (.ref b5), .val (.int (1 : Int32)), .val (.int (1 : Int32)), .unset, .unset, .unset, .unset, .unset, .unset, .unset] [])) _
        refine XS.iload X5.here hx rfl (hb hby at_75) rfl ?_
        show Steps p.tables e below (T5.setTop (mkF m 77 #[.val (.int p1), .val (.int p2), .val (.int p3), .val (.int p4), .val (.int x0), .val (.int x1), .val (.int x2), .val (.ref b1), .val (.ref b5), .val (.int (1 : Int32)), .val (.int (1 : Int32)), .unset, .unset, .unset, .unset, .unset, .unset, .unset] [(.int (1 : Int32))])) _
        refine XS.ifNo X5.here hx rfl (hb hby at_77) rfl ((if0 _ _).trans (feq (by decide)).1) ?_
        show Steps p.tables e below (T5.setTop (mkF m 80 #[.val (.int p1), .val (.int p2), .val (.int p3), .val (.int p4), .val (.int x0), .val (.int x1), .val (.int x2), .val (.ref b1), .val (.ref b5), .val (.int (1 : Int32)), .val (.int (1 : Int32)), .unset, .unset, .unset, .unset, .unset, .unset, .unset] [])) _
        refine XS.aload X5.here hx rfl (hb hby at_80) rfl rfl ?_
        show Steps p.tables e below (T5.setTop (mkF m 82 #[.val (.int p1), .val (.int p2), .val (.int p3), .val (.int p4), .val (.int x0), .val (.int x1), .val (.int x2), .val (.ref b1), .val (.ref b5), .val (.int (1 : Int32)), .val (.int (1 : Int32)), .unset, .unset, .unset, .unset, .unset, .unset, .unset] [(.ref b5)])) _
        refine XS.goto X5.here hx rfl (pc0 := 82) (pc' := 87) rfl (hb hby at_82) (by decide) (by decide) ?_
        show Steps p.tables e below (T5.setTop (mkF m 87 #[.val (.int p1), .val (.int p2), .val (.int p3), .val (.int p4), .val (.int x0), .val (.int x1), .val (.int x2), .val (.ref b1), .val (.ref b5), .val (.int (1 : Int32)), .val (.int (1 : Int32)), .unset, .unset, .unset, .unset, .unset, .unset, .unset] [(.ref b5)])) _
        refine XS.astore X5.here hx rfl (hb hby at_87) rfl rfl (l' := #[.val (.int p1), .val (.int p2), .val (.int p3), .val (.int p4), .val (.int x0), .val (.int x1), .val (.int x2), .val (.ref b1), .val (.ref b5), .val (.int (1 : Int32)), .val (.int (1 : Int32)), .val (.ref b5), .unset, .unset, .unset, .unset, .unset, .unset]) rfl ?_
        show Steps p.tables e below (T5.setTop (mkF m 89 #[.val (.int p1), .val (.int p2), .val (.int p3), .val (.int p4), .val (.int x0), .val (.int x1), .val (.int x2), .val (.ref b1), .val (.ref b5), .val (.int (1 : Int32)), .val (.int (1 : Int32)), .val (.ref b5), .unset, .unset, .unset, .unset, .unset, .unset] [])) _
        refine XS.iload X5.here hx rfl (hb hby at_89) rfl ?_
        show Steps p.tables e below (T5.setTop (mkF m 91 #[.val (.int p1), .val (.int p2), .val (.int p3), .val (.int p4), .val (.int x0), .val (.int x1), .val (.int x2), .val (.ref b1), .val (.ref b5), .val (.int (1 : Int32)), .val (.int (1 : Int32)), .val (.ref b5), .unset, .unset, .unset, .unset, .unset, .unset] [(.int (1 : Int32))])) _
        refine XS.ifNo X5.here hx rfl (hb hby at_91) rfl ((if0 _ _).trans (feq (by decide)).1) ?_
        show Steps p.tables e below (T5.setTop (mkF m 94 #[.val (.int p1), .val (.int p2), .val (.int p3), .val (.int p4), .val (.int x0), .val (.int x1), .val (.int x2), .val (.ref b1), .val (.ref b5), .val (.int (1 : Int32)), .val (.int (1 : Int32)), .val (.ref b5), .unset, .unset, .unset, .unset, .unset, .unset] [])) _
        refine XS.aload X5.here hx rfl (hb hby at_94) rfl rfl ?_
        show Steps p.tables e below (T5.setTop (mkF m 96 #[.val (.int p1), .val (.int p2), .val (.int p3), .val (.int p4), .val (.int x0), .val (.int x1), .val (.int x2), .val (.ref b1), .val (.ref b5), .val (.int (1 : Int32)), .val (.int (1 : Int32)), .val (.ref b5), .unset, .unset, .unset, .unset, .unset, .unset] [(.ref b1)])) _
        refine XS.goto X5.here hx rfl (pc0 := 96) (pc' := 101) rfl (hb hby at_96) (by decide) (by decide) ?_
        show Steps p.tables e below (T5.setTop (mkF m 101 #[.val (.int p1), .val (.int p2), .val (.int p3), .val (.int p4), .val (.int x0), .val (.int x1), .val (.int x2), .val (.ref b1), .val (.ref b5), .val (.int (1 : Int32)), .val (.int (1 : Int32)), .val (.ref b5), .unset, .unset, .unset, .unset, .unset, .unset] [(.ref b1)])) _
        refine XS.astore X5.here hx rfl (hb hby at_101) rfl rfl (l' := #[.val (.int p1), .val (.int p2), .val (.int p3), .val (.int p4), .val (.int x0), .val (.int x1), .val (.int x2), .val (.ref b1), .val (.ref b5), .val (.int (1 : Int32)), .val (.int (1 : Int32)), .val (.ref b5), .val (.ref b1), .unset, .unset, .unset, .unset, .unset]) rfl ?_
        show Steps p.tables e below (T5.setTop (mkF m 103 #[.val (.int p1), .val (.int p2), .val (.int p3), .val (.int p4), .val (.int x0), .val (.int x1), .val (.int x2), .val (.ref b1), .val (.ref b5), .val (.int (1 : Int32)), .val (.int (1 : Int32)), .val (.ref b5), .val (.ref b1), .unset, .unset, .unset, .unset, .unset] [])) _
        exact k
      obtain ⟨T55, h55, X55, e55, E55, A55, D55, -, st55⟩ := newO X5 hx hZ hown (hw _ (List.mem_of_getElem? (i := 2) rfl)) (hw _ (List.mem_of_getElem? (i := 3) rfl)) (hw _ (List.mem_of_getElem? (i := 4) rfl)) e5 (g := (mkF m 103 #[.val (.int p1), .val (.int p2), .val (.int p3), .val (.int p4), .val (.int x0), .val (.int x1), .val (.int x2), .val (.ref b1), .val (.ref b5), .val (.int (1 : Int32)), .val (.int (1 : Int32)), .val (.ref b5), .val (.ref b1), .unset, .unset, .unset, .unset, .unset] [])) rfl (hb hby at_103) (by decide) (by decide)
      obtain ⟨b55, g55⟩ : ∃ z, z = h5.size := ⟨_, rfl⟩
      rw [← g55] at A55 D55 st55
      have lt_b1_b55 : b1 < b55 := Nat.lt_of_lt_of_le G1.lt (Nat.le_of_eq g55.symm)
      have lt_b5_b55 : b5 < b55 := Nat.lt_of_lt_of_le G5.lt (Nat.le_of_eq g55.symm)
      have g_b55 : n0 ≤ b55 := Nat.le_trans (own_oldsz O) (Nat.le_of_eq g55.symm)
      replace G1 := G1.ext E55
      replace V4 := V4.ext E55
      replace G5 := G5.ext E55
      replace V5 := V5.ext E55
      replace O := O.ext E55
      replace hk := Nat.le_trans hk E55.1
      have F55_unreadable : Fld Z h55 b55 "com/example/fixity/fixity/engine/AccountRequest" "unreadable" "Ljava/lang/String;" .null := D55 (Or.inr (hw _ (List.mem_of_getElem? (i := 12) rfl))) (ty := (.object "java/lang/String")) (by decide)
      have F55_password : Fld Z h55 b55 "com/example/fixity/fixity/engine/AccountRequest" "password" "[C" .null := D55 (Or.inl (hw _ (List.mem_of_getElem? (i := 33) rfl))) (ty := (.array .char)) (by decide)
      have F55_role : Fld Z h55 b55 "com/example/fixity/fixity/engine/AccountRequest" "role" "Ljava/lang/String;" .null := D55 (Or.inl (hw _ (List.mem_of_getElem? (i := 64) rfl))) (ty := (.object "java/lang/String")) (by decide)
      refine own_go (B := T55.setTop (mkF m 106 #[.val (.int p1), .val (.int p2), .val (.int p3), .val (.int p4), .val (.int x0), .val (.int x1), .val (.int x2), .val (.ref b1), .val (.ref b5), .val (.int (1 : Int32)), .val (.int (1 : Int32)), .val (.ref b5), .val (.ref b1), .unset, .unset, .unset, .unset, .unset] [(.ref b55)])) st55 ?_
      refine own_go (B := T55.setTop (mkF m 107 #[.val (.int p1), .val (.int p2), .val (.int p3), .val (.int p4), .val (.int x0), .val (.int x1), .val (.int x2), .val (.ref b1), .val (.ref b5), .val (.int (1 : Int32)), .val (.int (1 : Int32)), .val (.ref b5), .val (.ref b1), .unset, .unset, .unset, .unset, .unset] [(.ref b55), (.ref b55)])) (fun t k => ?_) ?_
      · show Steps p.tables e below (T55.setTop (mkF m 106 #[.val (.int p1), .val (.int p2), .val (.int p3), .val (.int p4), .val (.int x0), .val (.int x1), .val (.int x2), .val (.ref b1), .val (.ref b5), .val (.int (1 : Int32)), .val (.int (1 : Int32)), .val (.ref b5), .val (.ref b1), .unset, .unset, .unset, .unset, .unset] [(.ref b55)])) _
        refine XS.dup X55.here hx rfl (hb hby at_106) rfl rfl ?_
        show Steps p.tables e below (T55.setTop (mkF m 107 #[.val (.int p1), .val (.int p2), .val (.int p3), .val (.int p4), .val (.int x0), .val (.int x1), .val (.int x2), .val (.ref b1), .val (.ref b5), .val (.int (1 : Int32)), .val (.int (1 : Int32)), .val (.ref b5), .val (.ref b1), .unset, .unset, .unset, .unset, .unset] [(.ref b55), (.ref b55)])) _
        exact k
      -- pc 107: com/example/fixity/fixity/engine/AccountRequest.<init>
      obtain ⟨_, _, ⟨T56, L56, k56, n56⟩, -, X56, ⟨Lc56, hQ56, l56, y56, z56⟩, st56⟩ := X55.specialBack hx (y := (⟨"com/example/fixity/fixity/engine/AccountRequest", "<init>", "()V"⟩ : MethodName)) rfl hown (mvT hZ (hw _ (List.mem_of_getElem? (i := 5) rfl))) (mvT hZ (hw _ (List.mem_of_getElem? (i := 6) rfl))) (mvT hZ (hw _ (List.mem_of_getElem? (i := 7) rfl))) (by decide) (backOf (W := 1) (rmInit l Z a0 hw [] b55 h55 n0 O A55 F55_unreadable F55_role F55_password g_b55) hZ (hw _ (List.mem_of_getElem? (i := 7) rfl)) (hw _ (List.mem_of_getElem? (i := 4) rfl)) (by decide) (by decide)) (g := (mkF m 107 #[.val (.int p1), .val (.int p2), .val (.int p3), .val (.int p4), .val (.int x0), .val (.int x1), .val (.int x2), .val (.ref b1), .val (.ref b5), .val (.int (1 : Int32)), .val (.int (1 : Int32)), .val (.ref b5), .val (.ref b1), .unset, .unset, .unset, .unset, .unset] [(.ref b55), (.ref b55)])) rfl (by rw [hml]; rfl) (Steps.refl _) (a := b55) (argsL := []) (rest := [(.ref b55)]) (lenOf pd_3 rfl) rfl (by show 2 * 0 + _ ≤ _; exact Nat.le_of_eq rfl) (hb hby at_107) (fun _ hWm => ⟨rfl, e55, (by decide : 3 + 0 ≤ _), (by decide : 10 + 0 ≤ _)⟩)
      dsimp only [Pt.U, Pt.locs, Pt.cells, Pt.slots] at X56 l56 y56 z56 st56 hQ56
      subst l56 y56 z56
      obtain ⟨rfl, Nq56, Kq56, Gq56_0, Gq56_1, Gq56_2⟩ := hQ56
      replace N := Fr.app N Nq56
      replace G1 := G1.keep Kq56
      replace V4 := V4.keep Kq56 (ninS (Nat.ne_of_lt lt_b1_b55) nin0)
      replace G5 := G5.keep Kq56
      replace V5 := V5.keep Kq56 (ninS (Nat.ne_of_lt lt_b5_b55) nin0)
      replace A55 := A55.keep Kq56
      clear F55_unreadable
      clear F55_password
      clear F55_role
      replace O := O.keep Kq56 (allS g_b55 all0)
      replace hk := Nat.le_trans hk Kq56.1
      refine own_go (B := T56.setTop (mkF m 110 #[.val (.int p1), .val (.int p2), .val (.int p3), .val (.int p4), .val (.int x0), .val (.int x1), .val (.int x2), .val (.ref b1), .val (.ref b5), .val (.int (1 : Int32)), .val (.int (1 : Int32)), .val (.ref b5), .val (.ref b1), .unset, .unset, .unset, .unset, .unset] [(.ref b55)])) (fun t k => st56.trans k) ?_
      refine own_go (B := T56.setTop (mkF m 116 #[.val (.int p1), .val (.int p2), .val (.int p3), .val (.int p4), .val (.int x0), .val (.int x1), .val (.int x2), .val (.ref b1), .val (.ref b5), .val (.int (1 : Int32)), .val (.int (1 : Int32)), .val (.ref b5), .val (.ref b1), .val (.ref b55), .unset, .unset, .unset, .unset] [(.ref b5), (.ref b55)])) (fun t k => ?_) ?_
      · show Steps p.tables e below (T56.setTop (mkF m 110 #[.val (.int p1), .val (.int p2), .val (.int p3), .val (.int p4), .val (.int x0), .val (.int x1), .val (.int x2), .val (.ref b1), .val (.ref b5), .val (.int (1 : Int32)), .val (.int (1 : Int32)), .val (.ref b5), .val (.ref b1), .unset, .unset, .unset, .unset, .unset] [(.ref b55)])) _
        refine XS.astore X56.here hx rfl (hb hby at_110) rfl rfl (l' := #[.val (.int p1), .val (.int p2), .val (.int p3), .val (.int p4), .val (.int x0), .val (.int x1), .val (.int x2), .val (.ref b1), .val (.ref b5), .val (.int (1 : Int32)), .val (.int (1 : Int32)), .val (.ref b5), .val (.ref b1), .val (.ref b55), .unset, .unset, .unset, .unset]) rfl ?_
        show Steps p.tables e below (T56.setTop (mkF m 112 #[.val (.int p1), .val (.int p2), .val (.int p3), .val (.int p4), .val (.int x0), .val (.int x1), .val (.int x2), .val (.ref b1), .val (.ref b5), .val (.int (1 : Int32)), .val (.int (1 : Int32)), .val (.ref b5), .val (.ref b1), .val (.ref b55), .unset, .unset, .unset, .unset] [])) _
        refine XS.aload X56.here hx rfl (hb hby at_112) rfl rfl ?_
        show Steps p.tables e below (T56.setTop (mkF m 114 #[.val (.int p1), .val (.int p2), .val (.int p3), .val (.int p4), .val (.int x0), .val (.int x1), .val (.int x2), .val (.ref b1), .val (.ref b5), .val (.int (1 : Int32)), .val (.int (1 : Int32)), .val (.ref b5), .val (.ref b1), .val (.ref b55), .unset, .unset, .unset, .unset] [(.ref b55)])) _
        refine XS.aload X56.here hx rfl (hb hby at_114) rfl rfl ?_
        show Steps p.tables e below (T56.setTop (mkF m 116 #[.val (.int p1), .val (.int p2), .val (.int p3), .val (.int p4), .val (.int x0), .val (.int x1), .val (.int x2), .val (.ref b1), .val (.ref b5), .val (.int (1 : Int32)), .val (.int (1 : Int32)), .val (.ref b5), .val (.ref b1), .val (.ref b55), .unset, .unset, .unset, .unset] [(.ref b5), (.ref b55)])) _
        exact k
      -- pc 116: com/example/fixity/fixity/engine/AccountRequest.password
      obtain ⟨cq57, kq57, q57a, q57b, q57c⟩ := isOf hZ rfl A55
      obtain ⟨_, _, ⟨T57, L57, k57, n57⟩, -, X57, hSq57, hgq57, ⟨Lc57, hQ57, l57, y57, z57⟩, st57⟩ := X56.virtualBackS hx (y := (⟨"com/example/fixity/fixity/engine/AccountRequest", "password", "([C)Lcom/example/fixity/fixity/engine/AccountRequest;"⟩ : MethodName)) (z := (⟨"com/example/fixity/fixity/engine/AccountRequest", "password", "([C)Lcom/example/fixity/fixity/engine/AccountRequest;"⟩ : MethodName)) hown (mvT hZ (hw _ (List.mem_of_getElem? (i := 13) rfl))) (mvT hZ (hw _ (List.mem_of_getElem? (i := 14) rfl))) (notFace_of_selects (args := #[]) (mvT hZ (hw _ (List.mem_of_getElem? (i := 16) rfl)))) (mvT hZ (hw _ (List.mem_of_getElem? (i := 16) rfl))) (mvT hZ (hw _ (List.mem_of_getElem? (i := 15) rfl))) (by decide) (backOfS (W := 0) (rmSetpassword l Z a0 hw [] b55 b5 (.null) T56.heap n0 O A55 Gq56_2 Gq56_0 Gq56_1 G5 g_b55) hZ (hw _ (List.mem_of_getElem? (i := 17) rfl)) (hw _ (List.mem_of_getElem? (i := 4) rfl)) (by decide) (by decide)) q57a q57c (g := (mkF m 116 #[.val (.int p1), .val (.int p2), .val (.int p3), .val (.int p4), .val (.int x0), .val (.int x1), .val (.int x2), .val (.ref b1), .val (.ref b5), .val (.int (1 : Int32)), .val (.int (1 : Int32)), .val (.ref b5), .val (.ref b1), .val (.ref b55), .unset, .unset, .unset, .unset] [(.ref b5), (.ref b55)])) rfl (by rw [hml]; rfl) (Steps.refl _) (argsL := [(.ref b5)]) (rest := []) (lenOf pd_4 rfl) rfl (by show 2 * 0 + _ ≤ _; exact Nat.le_of_eq rfl) (hb hby at_116) (fun _ hWm => ⟨rfl, rfl, (by decide : 3 + 2 ≤ _), (by decide : 10 + 36 ≤ _)⟩)
      dsimp only [Pt.U, Pt.locs, Pt.cells, Pt.slots] at X57 l57 y57 z57 st57 hQ57 hSq57 hgq57
      subst l57 y57 z57
      obtain ⟨X57, hS, hZ, hown⟩ := rebS hS hk X57 hSq57 hgq57 hZ hown
      obtain ⟨rfl, Nq57, Kq57, Gq57_0, Gq57_1, Gq57_2⟩ := hQ57
      replace N := Fr.app N Nq57
      replace G1 := G1.keep Kq57
      replace V4 := V4.keep Kq57 (ninS (Nat.ne_of_lt lt_b1_b55) nin0)
      replace G5 := G5.keep Kq57
      replace V5 := V5.keep Kq57 (ninS (Nat.ne_of_lt lt_b5_b55) nin0)
      replace A55 := A55.keep Kq57
      clear Gq56_0
      clear Gq56_1
      clear Gq56_2
      replace O := O.keep Kq57 (allS g_b55 all0)
      have hk : T57.heap.size ≤ T57.heap.size := Nat.le_refl _
      refine own_go (B := T57.setTop (mkF m 119 #[.val (.int p1), .val (.int p2), .val (.int p3), .val (.int p4), .val (.int x0), .val (.int x1), .val (.int x2), .val (.ref b1), .val (.ref b5), .val (.int (1 : Int32)), .val (.int (1 : Int32)), .val (.ref b5), .val (.ref b1), .val (.ref b55), .unset, .unset, .unset, .unset] [(.ref b55)])) (fun t k => st57.trans k) ?_
      refine own_go (B := T57.setTop (mkF m 148 #[.val (.int p1), .val (.int p2), .val (.int p3), .val (.int p4), .val (.int x0), .val (.int x1), .val (.int x2), .val (.ref b1), .val (.ref b5), .val (.int (1 : Int32)), .val (.int (1 : Int32)), .val (.ref b5), .val (.ref b1), .val (.ref b55), .val (.ref b55), .val (.int (1 : Int32)), .val (.ref b5), .unset] [(.ref b1), (.ref b55)])) (fun t k => ?_) ?_
      · show Steps p.tables e below (T57.setTop (mkF m 119 #[.val (.int p1), .val (.int p2), .val (.int p3), .val (.int p4), .val (.int x0), .val (.int x1), .val (.int x2), .val (.ref b1), .val (.ref b5), .val (.int (1 : Int32)), .val (.int (1 : Int32)), .val (.ref b5), .val (.ref b1), .val (.ref b55), .unset, .unset, .unset, .unset] [(.ref b55)])) _
        refine XS.astore X57.here hx rfl (hb hby at_119) rfl rfl (l' := #[.val (.int p1), .val (.int p2), .val (.int p3), .val (.int p4), .val (.int x0), .val (.int x1), .val (.int x2), .val (.ref b1), .val (.ref b5), .val (.int (1 : Int32)), .val (.int (1 : Int32)), .val (.ref b5), .val (.ref b1), .val (.ref b55), .val (.ref b55), .unset, .unset, .unset]) rfl ?_
        show Steps p.tables e below (T57.setTop (mkF m 121 #[.val (.int p1), .val (.int p2), .val (.int p3), .val (.int p4), .val (.int x0), .val (.int x1), .val (.int x2), .val (.ref b1), .val (.ref b5), .val (.int (1 : Int32)), .val (.int (1 : Int32)), .val (.ref b5), .val (.ref b1), .val (.ref b55), .val (.ref b55), .unset, .unset, .unset] [])) _
        refine XS.aload X57.here hx rfl (hb hby at_121) rfl rfl ?_
        show Steps p.tables e below (T57.setTop (mkF m 123 #[.val (.int p1), .val (.int p2), .val (.int p3), .val (.int p4), .val (.int x0), .val (.int x1), .val (.int x2), .val (.ref b1), .val (.ref b5), .val (.int (1 : Int32)), .val (.int (1 : Int32)), .val (.ref b5), .val (.ref b1), .val (.ref b55), .val (.ref b55), .unset, .unset, .unset] [(.ref b55)])) _
        refine XS.aload X57.here hx rfl (hb hby at_123) rfl rfl ?_
        show Steps p.tables e below (T57.setTop (mkF m 125 #[.val (.int p1), .val (.int p2), .val (.int p3), .val (.int p4), .val (.int x0), .val (.int x1), .val (.int x2), .val (.ref b1), .val (.ref b5), .val (.int (1 : Int32)), .val (.int (1 : Int32)), .val (.ref b5), .val (.ref b1), .val (.ref b55), .val (.ref b55), .unset, .unset, .unset] [(.ref b55), (.ref b55)])) _
        refine Jvm.RoadKit.acmp (g := (mkF m 125 #[.val (.int p1), .val (.int p2), .val (.int p3), .val (.int p4), .val (.int x0), .val (.int x1), .val (.int x2), .val (.ref b1), .val (.ref b5), .val (.int (1 : Int32)), .val (.int (1 : Int32)), .val (.ref b5), .val (.ref b1), .val (.ref b55), .val (.ref b55), .unset, .unset, .unset] [(.ref b55), (.ref b55)])) X57 hx rfl rfl rfl (pc0 := 125) (pc' := 128) (same := true) rfl (hb hby at_125) rfl (decide_eq_true (congrArg Value.ref rfl)) (by decide) (by decide) ?_
        show Steps p.tables e below (T57.setTop (mkF m 128 #[.val (.int p1), .val (.int p2), .val (.int p3), .val (.int p4), .val (.int x0), .val (.int x1), .val (.int x2), .val (.ref b1), .val (.ref b5), .val (.int (1 : Int32)), .val (.int (1 : Int32)), .val (.ref b5), .val (.ref b1), .val (.ref b55), .val (.ref b55), .unset, .unset, .unset] [])) _
        refine XS.iconst X57.here hx rfl (hb hby at_128) ?_
        show Steps p.tables e below (T57.setTop (mkF m 129 #[.val (.int p1), .val (.int p2), .val (.int p3), .val (.int p4), .val (.int x0), .val (.int x1), .val (.int x2), .val (.ref b1), .val (.ref b5), .val (.int (1 : Int32)), .val (.int (1 : Int32)), .val (.ref b5), .val (.ref b1), .val (.ref b55), .val (.ref b55), .unset, .unset, .unset] [(.int (1 : Int32))])) _
        refine XS.goto X57.here hx rfl (pc0 := 129) (pc' := 133) rfl (hb hby at_129) (by decide) (by decide) ?_
        show Steps p.tables e below (T57.setTop (mkF m 133 #[.val (.int p1), .val (.int p2), .val (.int p3), .val (.int p4), .val (.int x0), .val (.int x1), .val (.int x2), .val (.ref b1), .val (.ref b5), .val (.int (1 : Int32)), .val (.int (1 : Int32)), .val (.ref b5), .val (.ref b1), .val (.ref b55), .val (.ref b55), .unset, .unset, .unset] [(.int (1 : Int32))])) _
        refine XS.istore X57.here hx rfl (hb hby at_133) rfl (l' := #[.val (.int p1), .val (.int p2), .val (.int p3), .val (.int p4), .val (.int x0), .val (.int x1), .val (.int x2), .val (.ref b1), .val (.ref b5), .val (.int (1 : Int32)), .val (.int (1 : Int32)), .val (.ref b5), .val (.ref b1), .val (.ref b55), .val (.ref b55), .val (.int (1 : Int32)), .unset, .unset]) rfl ?_
        show Steps p.tables e below (T57.setTop (mkF m 135 #[.val (.int p1), .val (.int p2), .val (.int p3), .val (.int p4), .val (.int x0), .val (.int x1), .val (.int x2), .val (.ref b1), .val (.ref b5), .val (.int (1 : Int32)), .val (.int (1 : Int32)), .val (.ref b5), .val (.ref b1), .val (.ref b55), .val (.ref b55), .val (.int (1 : Int32)), .unset, .unset] [])) _
        refine XS.aload X57.here hx rfl (hb hby at_135) rfl rfl ?_
        show Steps p.tables e below (T57.setTop (mkF m 137 #[.val (.int p1), .val (.int p2), .val (.int p3), .val (.int p4), .val (.int x0), .val (.int x1), .val (.int x2), .val (.ref b1), .val (.ref b5), .val (.int (1 : Int32)), .val (.int (1 : Int32)), .val (.ref b5), .val (.ref b1), .val (.ref b55), .val (.ref b55), .val (.int (1 : Int32)), .unset, .unset] [(.ref b5)])) _
        refine XS.astore X57.here hx rfl (hb hby at_137) rfl rfl (l' := #[.val (.int p1), .val (.int p2), .val (.int p3), .val (.int p4), .val (.int x0), .val (.int x1), .val (.int x2), .val (.ref b1), .val (.ref b5), .val (.int (1 : Int32)), .val (.int (1 : Int32)), .val (.ref b5), .val (.ref b1), .val (.ref b55), .val (.ref b55), .val (.int (1 : Int32)), .val (.ref b5), .unset]) rfl ?_
        show Steps p.tables e below (T57.setTop (mkF m 139 #[.val (.int p1), .val (.int p2), .val (.int p3), .val (.int p4), .val (.int x0), .val (.int x1), .val (.int x2), .val (.ref b1), .val (.ref b5), .val (.int (1 : Int32)), .val (.int (1 : Int32)), .val (.ref b5), .val (.ref b1), .val (.ref b55), .val (.ref b55), .val (.int (1 : Int32)), .val (.ref b5), .unset] [])) _
        refine XS.iload X57.here hx rfl (hb hby at_139) rfl ?_
        show Steps p.tables e below (T57.setTop (mkF m 141 #[.val (.int p1), .val (.int p2), .val (.int p3), .val (.int p4), .val (.int x0), .val (.int x1), .val (.int x2), .val (.ref b1), .val (.ref b5), .val (.int (1 : Int32)), .val (.int (1 : Int32)), .val (.ref b5), .val (.ref b1), .val (.ref b55), .val (.ref b55), .val (.int (1 : Int32)), .val (.ref b5), .unset] [(.int (1 : Int32))])) _
        refine XS.ifNo X57.here hx rfl (hb hby at_141) rfl ((if0 _ _).trans (feq (by decide)).1) ?_
        show Steps p.tables e below (T57.setTop (mkF m 144 #[.val (.int p1), .val (.int p2), .val (.int p3), .val (.int p4), .val (.int x0), .val (.int x1), .val (.int x2), .val (.ref b1), .val (.ref b5), .val (.int (1 : Int32)), .val (.int (1 : Int32)), .val (.ref b5), .val (.ref b1), .val (.ref b55), .val (.ref b55), .val (.int (1 : Int32)), .val (.ref b5), .unset] [])) _
        refine XS.aload X57.here hx rfl (hb hby at_144) rfl rfl ?_
        show Steps p.tables e below (T57.setTop (mkF m 146 #[.val (.int p1), .val (.int p2), .val (.int p3), .val (.int p4), .val (.int x0), .val (.int x1), .val (.int x2), .val (.ref b1), .val (.ref b5), .val (.int (1 : Int32)), .val (.int (1 : Int32)), .val (.ref b5), .val (.ref b1), .val (.ref b55), .val (.ref b55), .val (.int (1 : Int32)), .val (.ref b5), .unset] [(.ref b55)])) _
        refine XS.aload X57.here hx rfl (hb hby at_146) rfl rfl ?_
        show Steps p.tables e below (T57.setTop (mkF m 148 #[.val (.int p1), .val (.int p2), .val (.int p3), .val (.int p4), .val (.int x0), .val (.int x1), .val (.int x2), .val (.ref b1), .val (.ref b5), .val (.int (1 : Int32)), .val (.int (1 : Int32)), .val (.ref b5), .val (.ref b1), .val (.ref b55), .val (.ref b55), .val (.int (1 : Int32)), .val (.ref b5), .unset] [(.ref b1), (.ref b55)])) _
        exact k
      -- pc 148: com/example/fixity/fixity/engine/AccountRequest.password
      obtain ⟨cq58, kq58, q58a, q58b, q58c⟩ := isOf hZ rfl A55
      obtain ⟨_, _, ⟨T58, L58, k58, n58⟩, -, X58, hSq58, hgq58, ⟨Lc58, hQ58, l58, y58, z58⟩, st58⟩ := X57.virtualBackS hx (y := (⟨"com/example/fixity/fixity/engine/AccountRequest", "password", "([C)Lcom/example/fixity/fixity/engine/AccountRequest;"⟩ : MethodName)) (z := (⟨"com/example/fixity/fixity/engine/AccountRequest", "password", "([C)Lcom/example/fixity/fixity/engine/AccountRequest;"⟩ : MethodName)) hown (mvT hZ (hw _ (List.mem_of_getElem? (i := 13) rfl))) (mvT hZ (hw _ (List.mem_of_getElem? (i := 14) rfl))) (notFace_of_selects (args := #[]) (mvT hZ (hw _ (List.mem_of_getElem? (i := 16) rfl)))) (mvT hZ (hw _ (List.mem_of_getElem? (i := 16) rfl))) (mvT hZ (hw _ (List.mem_of_getElem? (i := 15) rfl))) (by decide) (backOfS (W := 0) (rmSetpassword l Z a0 hw [] b55 b1 (.ref b5) T57.heap n0 O A55 Gq57_0 Gq57_1 Gq57_2 G1 g_b55) hZ (hw _ (List.mem_of_getElem? (i := 17) rfl)) (hw _ (List.mem_of_getElem? (i := 4) rfl)) (by decide) (by decide)) q58a q58c (g := (mkF m 148 #[.val (.int p1), .val (.int p2), .val (.int p3), .val (.int p4), .val (.int x0), .val (.int x1), .val (.int x2), .val (.ref b1), .val (.ref b5), .val (.int (1 : Int32)), .val (.int (1 : Int32)), .val (.ref b5), .val (.ref b1), .val (.ref b55), .val (.ref b55), .val (.int (1 : Int32)), .val (.ref b5), .unset] [(.ref b1), (.ref b55)])) rfl (by rw [hml]; rfl) (Steps.refl _) (argsL := [(.ref b1)]) (rest := []) (lenOf pd_4 rfl) rfl (by show 2 * 0 + _ ≤ _; exact Nat.le_of_eq rfl) (hb hby at_148) (fun _ hWm => ⟨rfl, rfl, (by decide : 5 + 2 ≤ _), (by decide : 46 + 36 ≤ _)⟩)
      dsimp only [Pt.U, Pt.locs, Pt.cells, Pt.slots] at X58 l58 y58 z58 st58 hQ58 hSq58 hgq58
      subst l58 y58 z58
      obtain ⟨X58, hS, hZ, hown⟩ := rebS hS hk X58 hSq58 hgq58 hZ hown
      obtain ⟨rfl, Nq58, Kq58, Gq58_0, Gq58_1, Gq58_2⟩ := hQ58
      replace N := Fr.app N Nq58
      replace G1 := G1.keep Kq58
      replace V4 := V4.keep Kq58 (ninS (Nat.ne_of_lt lt_b1_b55) nin0)
      replace G5 := G5.keep Kq58
      replace V5 := V5.keep Kq58 (ninS (Nat.ne_of_lt lt_b5_b55) nin0)
      replace A55 := A55.keep Kq58
      clear Gq57_0
      clear Gq57_1
      clear Gq57_2
      replace O := O.keep Kq58 (allS g_b55 all0)
      have hk : T58.heap.size ≤ T58.heap.size := Nat.le_refl _
      refine own_go (B := T58.setTop (mkF m 151 #[.val (.int p1), .val (.int p2), .val (.int p3), .val (.int p4), .val (.int x0), .val (.int x1), .val (.int x2), .val (.ref b1), .val (.ref b5), .val (.int (1 : Int32)), .val (.int (1 : Int32)), .val (.ref b5), .val (.ref b1), .val (.ref b55), .val (.ref b55), .val (.int (1 : Int32)), .val (.ref b5), .unset] [(.ref b55)])) (fun t k => st58.trans k) ?_
      refine own_go (B := T58.setTop (mkF m 178 #[.val (.int p1), .val (.int p2), .val (.int p3), .val (.int p4), .val (.int x0), .val (.int x1), .val (.int x2), .val (.ref b1), .val (.ref b5), .val (.int (1 : Int32)), .val (.int (1 : Int32)), .val (.ref b5), .val (.ref b1), .val (.ref b55), .val (.ref b55), .val (.int (1 : Int32)), .val (.ref b1), .val (.ref b55)] [(.ref b55)])) (fun t k => ?_) ?_
      · show Steps p.tables e below (T58.setTop (mkF m 151 #[.val (.int p1), .val (.int p2), .val (.int p3), .val (.int p4), .val (.int x0), .val (.int x1), .val (.int x2), .val (.ref b1), .val (.ref b5), .val (.int (1 : Int32)), .val (.int (1 : Int32)), .val (.ref b5), .val (.ref b1), .val (.ref b55), .val (.ref b55), .val (.int (1 : Int32)), .val (.ref b5), .unset] [(.ref b55)])) _
        refine XS.astore X58.here hx rfl (hb hby at_151) rfl rfl (l' := #[.val (.int p1), .val (.int p2), .val (.int p3), .val (.int p4), .val (.int x0), .val (.int x1), .val (.int x2), .val (.ref b1), .val (.ref b5), .val (.int (1 : Int32)), .val (.int (1 : Int32)), .val (.ref b5), .val (.ref b1), .val (.ref b55), .val (.ref b55), .val (.int (1 : Int32)), .val (.ref b5), .val (.ref b55)]) rfl ?_
        show Steps p.tables e below (T58.setTop (mkF m 153 #[.val (.int p1), .val (.int p2), .val (.int p3), .val (.int p4), .val (.int x0), .val (.int x1), .val (.int x2), .val (.ref b1), .val (.ref b5), .val (.int (1 : Int32)), .val (.int (1 : Int32)), .val (.ref b5), .val (.ref b1), .val (.ref b55), .val (.ref b55), .val (.int (1 : Int32)), .val (.ref b5), .val (.ref b55)] [])) _
        refine XS.iload X58.here hx rfl (hb hby at_153) rfl ?_
        show Steps p.tables e below (T58.setTop (mkF m 155 #[.val (.int p1), .val (.int p2), .val (.int p3), .val (.int p4), .val (.int x0), .val (.int x1), .val (.int x2), .val (.ref b1), .val (.ref b5), .val (.int (1 : Int32)), .val (.int (1 : Int32)), .val (.ref b5), .val (.ref b1), .val (.ref b55), .val (.ref b55), .val (.int (1 : Int32)), .val (.ref b5), .val (.ref b55)] [(.int (1 : Int32))])) _
        refine XS.ifNo X58.here hx rfl (hb hby at_155) rfl ((if0 _ _).trans (feq (by decide)).1) ?_
        show Steps p.tables e below (T58.setTop (mkF m 158 #[.val (.int p1), .val (.int p2), .val (.int p3), .val (.int p4), .val (.int x0), .val (.int x1), .val (.int x2), .val (.ref b1), .val (.ref b5), .val (.int (1 : Int32)), .val (.int (1 : Int32)), .val (.ref b5), .val (.ref b1), .val (.ref b55), .val (.ref b55), .val (.int (1 : Int32)), .val (.ref b5), .val (.ref b55)] [])) _
        refine XS.aload X58.here hx rfl (hb hby at_158) rfl rfl ?_
        show Steps p.tables e below (T58.setTop (mkF m 160 #[.val (.int p1), .val (.int p2), .val (.int p3), .val (.int p4), .val (.int x0), .val (.int x1), .val (.int x2), .val (.ref b1), .val (.ref b5), .val (.int (1 : Int32)), .val (.int (1 : Int32)), .val (.ref b5), .val (.ref b1), .val (.ref b55), .val (.ref b55), .val (.int (1 : Int32)), .val (.ref b5), .val (.ref b55)] [(.ref b55)])) _
        refine XS.aload X58.here hx rfl (hb hby at_160) rfl rfl ?_
        show Steps p.tables e below (T58.setTop (mkF m 162 #[.val (.int p1), .val (.int p2), .val (.int p3), .val (.int p4), .val (.int x0), .val (.int x1), .val (.int x2), .val (.ref b1), .val (.ref b5), .val (.int (1 : Int32)), .val (.int (1 : Int32)), .val (.ref b5), .val (.ref b1), .val (.ref b55), .val (.ref b55), .val (.int (1 : Int32)), .val (.ref b5), .val (.ref b55)] [(.ref b55), (.ref b55)])) _
        refine Jvm.RoadKit.acmp (g := (mkF m 162 #[.val (.int p1), .val (.int p2), .val (.int p3), .val (.int p4), .val (.int x0), .val (.int x1), .val (.int x2), .val (.ref b1), .val (.ref b5), .val (.int (1 : Int32)), .val (.int (1 : Int32)), .val (.ref b5), .val (.ref b1), .val (.ref b55), .val (.ref b55), .val (.int (1 : Int32)), .val (.ref b5), .val (.ref b55)] [(.ref b55), (.ref b55)])) X58 hx rfl rfl rfl (pc0 := 162) (pc' := 165) (same := true) rfl (hb hby at_162) rfl (decide_eq_true (congrArg Value.ref rfl)) (by decide) (by decide) ?_
        show Steps p.tables e below (T58.setTop (mkF m 165 #[.val (.int p1), .val (.int p2), .val (.int p3), .val (.int p4), .val (.int x0), .val (.int x1), .val (.int x2), .val (.ref b1), .val (.ref b5), .val (.int (1 : Int32)), .val (.int (1 : Int32)), .val (.ref b5), .val (.ref b1), .val (.ref b55), .val (.ref b55), .val (.int (1 : Int32)), .val (.ref b5), .val (.ref b55)] [])) _
        refine XS.iconst X58.here hx rfl (hb hby at_165) ?_
        show Steps p.tables e below (T58.setTop (mkF m 166 #[.val (.int p1), .val (.int p2), .val (.int p3), .val (.int p4), .val (.int x0), .val (.int x1), .val (.int x2), .val (.ref b1), .val (.ref b5), .val (.int (1 : Int32)), .val (.int (1 : Int32)), .val (.ref b5), .val (.ref b1), .val (.ref b55), .val (.ref b55), .val (.int (1 : Int32)), .val (.ref b5), .val (.ref b55)] [(.int (1 : Int32))])) _
        refine XS.goto X58.here hx rfl (pc0 := 166) (pc' := 170) rfl (hb hby at_166) (by decide) (by decide) ?_
        show Steps p.tables e below (T58.setTop (mkF m 170 #[.val (.int p1), .val (.int p2), .val (.int p3), .val (.int p4), .val (.int x0), .val (.int x1), .val (.int x2), .val (.ref b1), .val (.ref b5), .val (.int (1 : Int32)), .val (.int (1 : Int32)), .val (.ref b5), .val (.ref b1), .val (.ref b55), .val (.ref b55), .val (.int (1 : Int32)), .val (.ref b5), .val (.ref b55)] [(.int (1 : Int32))])) _
        refine XS.istore X58.here hx rfl (hb hby at_170) rfl (l' := #[.val (.int p1), .val (.int p2), .val (.int p3), .val (.int p4), .val (.int x0), .val (.int x1), .val (.int x2), .val (.ref b1), .val (.ref b5), .val (.int (1 : Int32)), .val (.int (1 : Int32)), .val (.ref b5), .val (.ref b1), .val (.ref b55), .val (.ref b55), .val (.int (1 : Int32)), .val (.ref b5), .val (.ref b55)]) rfl ?_
        show Steps p.tables e below (T58.setTop (mkF m 172 #[.val (.int p1), .val (.int p2), .val (.int p3), .val (.int p4), .val (.int x0), .val (.int x1), .val (.int x2), .val (.ref b1), .val (.ref b5), .val (.int (1 : Int32)), .val (.int (1 : Int32)), .val (.ref b5), .val (.ref b1), .val (.ref b55), .val (.ref b55), .val (.int (1 : Int32)), .val (.ref b5), .val (.ref b55)] [])) _
        refine XS.aload X58.here hx rfl (hb hby at_172) rfl rfl ?_
        show Steps p.tables e below (T58.setTop (mkF m 174 #[.val (.int p1), .val (.int p2), .val (.int p3), .val (.int p4), .val (.int x0), .val (.int x1), .val (.int x2), .val (.ref b1), .val (.ref b5), .val (.int (1 : Int32)), .val (.int (1 : Int32)), .val (.ref b5), .val (.ref b1), .val (.ref b55), .val (.ref b55), .val (.int (1 : Int32)), .val (.ref b5), .val (.ref b55)] [(.ref b1)])) _
        refine XS.astore X58.here hx rfl (hb hby at_174) rfl rfl (l' := #[.val (.int p1), .val (.int p2), .val (.int p3), .val (.int p4), .val (.int x0), .val (.int x1), .val (.int x2), .val (.ref b1), .val (.ref b5), .val (.int (1 : Int32)), .val (.int (1 : Int32)), .val (.ref b5), .val (.ref b1), .val (.ref b55), .val (.ref b55), .val (.int (1 : Int32)), .val (.ref b1), .val (.ref b55)]) rfl ?_
        show Steps p.tables e below (T58.setTop (mkF m 176 #[.val (.int p1), .val (.int p2), .val (.int p3), .val (.int p4), .val (.int x0), .val (.int x1), .val (.int x2), .val (.ref b1), .val (.ref b5), .val (.int (1 : Int32)), .val (.int (1 : Int32)), .val (.ref b5), .val (.ref b1), .val (.ref b55), .val (.ref b55), .val (.int (1 : Int32)), .val (.ref b1), .val (.ref b55)] [])) _
        refine XS.aload X58.here hx rfl (hb hby at_176) rfl rfl ?_
        show Steps p.tables e below (T58.setTop (mkF m 178 #[.val (.int p1), .val (.int p2), .val (.int p3), .val (.int p4), .val (.int x0), .val (.int x1), .val (.int x2), .val (.ref b1), .val (.ref b5), .val (.int (1 : Int32)), .val (.int (1 : Int32)), .val (.ref b5), .val (.ref b1), .val (.ref b55), .val (.ref b55), .val (.int (1 : Int32)), .val (.ref b1), .val (.ref b55)] [(.ref b55)])) _
        exact k
      -- pc 178: com/example/fixity/fixity/engine/AccountRequest.password
      obtain ⟨cq59, kq59, q59a, q59b, q59c⟩ := isOf hZ rfl A55
      obtain ⟨_, _, ⟨T59, L59, k59, n59⟩, -, X59, ⟨Lc59, hQ59, l59, y59, z59⟩, st59⟩ := X58.virtualBack hx (y := (⟨"com/example/fixity/fixity/engine/AccountRequest", "password", "()Ljava/util/Optional;"⟩ : MethodName)) (z := (⟨"com/example/fixity/fixity/engine/AccountRequest", "password", "()Ljava/util/Optional;"⟩ : MethodName)) hown (mvT hZ (hw _ (List.mem_of_getElem? (i := 34) rfl))) (mvT hZ (hw _ (List.mem_of_getElem? (i := 35) rfl))) (notFace_of_selects (args := #[]) (mvT hZ (hw _ (List.mem_of_getElem? (i := 37) rfl)))) (mvT hZ (hw _ (List.mem_of_getElem? (i := 37) rfl))) (mvT hZ (hw _ (List.mem_of_getElem? (i := 36) rfl))) (by decide) (backOf (W := 0) (rmG1password l Z a0 hw [] b55 b1 T58.heap n0 O Gq58_0) hZ (hw _ (List.mem_of_getElem? (i := 38) rfl)) (hw _ (List.mem_of_getElem? (i := 4) rfl)) (by decide) (by decide)) q59a q59c (g := (mkF m 178 #[.val (.int p1), .val (.int p2), .val (.int p3), .val (.int p4), .val (.int x0), .val (.int x1), .val (.int x2), .val (.ref b1), .val (.ref b5), .val (.int (1 : Int32)), .val (.int (1 : Int32)), .val (.ref b5), .val (.ref b1), .val (.ref b55), .val (.ref b55), .val (.int (1 : Int32)), .val (.ref b1), .val (.ref b55)] [(.ref b55)])) rfl (by rw [hml]; rfl) (Steps.refl _) (argsL := []) (rest := []) (lenOf pd_5 rfl) rfl (by show 2 * 0 + _ ≤ _; exact Nat.le_of_eq rfl) (hb hby at_178) (fun _ hWm => ⟨rfl, rfl, (by decide : 7 + 1 ≤ _), (by decide : 82 + 1 ≤ _)⟩)
      dsimp only [Pt.U, Pt.locs, Pt.cells, Pt.slots] at X59 l59 y59 z59 st59 hQ59
      subst l59 y59 z59
      obtain ⟨r59, rfl, Nq59, Kq59, fq59_r, Gq59_0, Gq59_1⟩ := hQ59
      replace N := Fr.app N Nq59
      have lt_b1_r59 : b1 < r59 := Nat.lt_of_lt_of_le G1.lt fq59_r
      have lt_b5_r59 : b5 < r59 := Nat.lt_of_lt_of_le G5.lt fq59_r
      have lt_b55_r59 : b55 < r59 := Nat.lt_of_lt_of_le A55.lt fq59_r
      have g_r59 : n0 ≤ r59 := Nat.le_trans (own_oldsz O) fq59_r
      replace G1 := G1.keep Kq59
      replace V4 := V4.keep Kq59 nin0
      replace G5 := G5.keep Kq59
      replace V5 := V5.keep Kq59 nin0
      replace A55 := A55.keep Kq59
      replace Gq58_0 := Gq58_0.keep Kq59 nin0
      replace Gq58_1 := Gq58_1.keep Kq59 nin0
      replace Gq58_2 := Gq58_2.keep Kq59 nin0
      replace O := O.keep Kq59 all0
      replace hk := Nat.le_trans hk Kq59.1
      refine own_go (B := T59.setTop (mkF m 181 #[.val (.int p1), .val (.int p2), .val (.int p3), .val (.int p4), .val (.int x0), .val (.int x1), .val (.int x2), .val (.ref b1), .val (.ref b5), .val (.int (1 : Int32)), .val (.int (1 : Int32)), .val (.ref b5), .val (.ref b1), .val (.ref b55), .val (.ref b55), .val (.int (1 : Int32)), .val (.ref b1), .val (.ref b55)] [(.ref r59)])) (fun t k => st59.trans k) ?_
      refine own_go (B := T59.setTop (mkF m 182 #[.val (.int p1), .val (.int p2), .val (.int p3), .val (.int p4), .val (.int x0), .val (.int x1), .val (.int x2), .val (.ref b1), .val (.ref b5), .val (.int (1 : Int32)), .val (.int (1 : Int32)), .val (.ref b5), .val (.ref b1), .val (.ref b55), .val (.ref b55), .val (.int (1 : Int32)), .val (.ref b1), .val (.ref b55)] [.null, (.ref r59)])) (fun t k => ?_) ?_
      · show Steps p.tables e below (T59.setTop (mkF m 181 #[.val (.int p1), .val (.int p2), .val (.int p3), .val (.int p4), .val (.int x0), .val (.int x1), .val (.int x2), .val (.ref b1), .val (.ref b5), .val (.int (1 : Int32)), .val (.int (1 : Int32)), .val (.ref b5), .val (.ref b1), .val (.ref b55), .val (.ref b55), .val (.int (1 : Int32)), .val (.ref b1), .val (.ref b55)] [(.ref r59)])) _
        refine XS.aconstNull X59.here hx rfl (hb hby at_181) ?_
        show Steps p.tables e below (T59.setTop (mkF m 182 #[.val (.int p1), .val (.int p2), .val (.int p3), .val (.int p4), .val (.int x0), .val (.int x1), .val (.int x2), .val (.ref b1), .val (.ref b5), .val (.int (1 : Int32)), .val (.int (1 : Int32)), .val (.ref b5), .val (.ref b1), .val (.ref b55), .val (.ref b55), .val (.int (1 : Int32)), .val (.ref b1), .val (.ref b55)] [.null, (.ref r59)])) _
        exact k
      -- pc 182: java/util/Optional.orElse
      obtain ⟨cq60, kq60, q60a, q60b, q60c⟩ := isOf hZ rfl Gq59_0
      obtain ⟨_, _, ⟨T60, L60, k60, n60⟩, -, X60, ⟨Lc60, hQ60, l60, y60, z60⟩, st60⟩ := X59.virtualBack hx (y := (⟨"java/util/Optional", "orElse", "(Ljava/lang/Object;)Ljava/lang/Object;"⟩ : MethodName)) (z := (⟨"java/util/Optional", "orElse", "(Ljava/lang/Object;)Ljava/lang/Object;"⟩ : MethodName)) hown (mvT hZ (hw _ (List.mem_of_getElem? (i := 52) rfl))) (mvT hZ (hw _ (List.mem_of_getElem? (i := 53) rfl))) (notFace_of_selects (args := #[]) (mvT hZ (hw _ (List.mem_of_getElem? (i := 55) rfl)))) (mvT hZ (hw _ (List.mem_of_getElem? (i := 55) rfl))) (mvT hZ (hw _ (List.mem_of_getElem? (i := 54) rfl))) (by decide) (backOf (W := 0) (rmOE1 l Z a0 hw [] r59 b1 T59.heap n0 O Gq59_1) hZ (hw _ (List.mem_of_getElem? (i := 56) rfl)) (hw _ (List.mem_of_getElem? (i := 41) rfl)) (by decide) (by decide)) q60a q60c (g := (mkF m 182 #[.val (.int p1), .val (.int p2), .val (.int p3), .val (.int p4), .val (.int x0), .val (.int x1), .val (.int x2), .val (.ref b1), .val (.ref b5), .val (.int (1 : Int32)), .val (.int (1 : Int32)), .val (.ref b5), .val (.ref b1), .val (.ref b55), .val (.ref b55), .val (.int (1 : Int32)), .val (.ref b1), .val (.ref b55)] [.null, (.ref r59)])) rfl (by rw [hml]; rfl) (Steps.refl _) (argsL := [.null]) (rest := []) (lenOf pd_6 rfl) rfl (by show 2 * 0 + _ ≤ _; exact Nat.le_of_eq rfl) (hb hby at_182) (fun _ hWm => ⟨rfl, rfl, (by decide : 8 + 0 ≤ _), (by decide : 83 + 0 ≤ _)⟩)
      dsimp only [Pt.U, Pt.locs, Pt.cells, Pt.slots] at X60 l60 y60 z60 st60 hQ60
      subst l60 y60 z60
      obtain ⟨rfl, Nq60, Kq60⟩ := hQ60
      replace N := Fr.app N Nq60
      refine own_go (B := T60.setTop (mkF m 185 #[.val (.int p1), .val (.int p2), .val (.int p3), .val (.int p4), .val (.int x0), .val (.int x1), .val (.int x2), .val (.ref b1), .val (.ref b5), .val (.int (1 : Int32)), .val (.int (1 : Int32)), .val (.ref b5), .val (.ref b1), .val (.ref b55), .val (.ref b55), .val (.int (1 : Int32)), .val (.ref b1), .val (.ref b55)] [(.ref b1)])) (fun t k => st60.trans k) ?_
      obtain ⟨T61, X61, e61, st61⟩ := castY X60 hx hZ hown (hw _ (List.mem_of_getElem? (i := 57) rfl)) Kq60 (Ins.self G1) (g := (mkF m 185 #[.val (.int p1), .val (.int p2), .val (.int p3), .val (.int p4), .val (.int x0), .val (.int x1), .val (.int x2), .val (.ref b1), .val (.ref b5), .val (.int (1 : Int32)), .val (.int (1 : Int32)), .val (.ref b5), .val (.ref b1), .val (.ref b55), .val (.ref b55), .val (.int (1 : Int32)), .val (.ref b1), .val (.ref b55)] [(.ref b1)])) rfl rfl (hb hby at_185)
      refine own_go (B := T61.setTop (mkF m 188 #[.val (.int p1), .val (.int p2), .val (.int p3), .val (.int p4), .val (.int x0), .val (.int x1), .val (.int x2), .val (.ref b1), .val (.ref b5), .val (.int (1 : Int32)), .val (.int (1 : Int32)), .val (.ref b5), .val (.ref b1), .val (.ref b55), .val (.ref b55), .val (.int (1 : Int32)), .val (.ref b1), .val (.ref b55)] [(.ref b1)])) st61 ?_
      refine own_go (B := T61.setTop (mkF m 216 #[.val (.int p1), .val (.int p2), .val (.int p3), .val (.int p4), .val (.int x0), .val (.int x1), .val (.int x2), .val (.ref b1), .val (.ref b5), .val (.int (1 : Int32)), .val (.int (1 : Int32)), .val (.ref b5), .val (.ref b1), .val (.ref b55), .val (.ref b55), .val (.int (1 : Int32)), .val (.ref b1), .val (.ref b1)] [(.ref b1)])) (fun t k => ?_) ?_
      · show Steps p.tables e below (T61.setTop (mkF m 188 #[.val (.int p1), .val (.int p2), .val (.int p3), .val (.int p4), .val (.int x0), .val (.int x1), .val (.int x2), .val (.ref b1), .val (.ref b5), .val (.int (1 : Int32)), .val (.int (1 : Int32)), .val (.ref b5), .val (.ref b1), .val (.ref b55), .val (.ref b55), .val (.int (1 : Int32)), .val (.ref b1), .val (.ref b55)] [(.ref b1)])) _
        refine XS.astore X61.here hx rfl (hb hby at_188) rfl rfl (l' := #[.val (.int p1), .val (.int p2), .val (.int p3), .val (.int p4), .val (.int x0), .val (.int x1), .val (.int x2), .val (.ref b1), .val (.ref b5), .val (.int (1 : Int32)), .val (.int (1 : Int32)), .val (.ref b5), .val (.ref b1), .val (.ref b55), .val (.ref b55), .val (.int (1 : Int32)), .val (.ref b1), .val (.ref b1)]) rfl ?_
        show Steps p.tables e below (T61.setTop (mkF m 190 #[.val (.int p1), .val (.int p2), .val (.int p3), .val (.int p4), .val (.int x0), .val (.int x1), .val (.int x2), .val (.ref b1), .val (.ref b5), .val (.int (1 : Int32)), .val (.int (1 : Int32)), .val (.ref b5), .val (.ref b1), .val (.ref b55), .val (.ref b55), .val (.int (1 : Int32)), .val (.ref b1), .val (.ref b1)] [])) _
        refine XS.iload X61.here hx rfl (hb hby at_190) rfl ?_
        show Steps p.tables e below (T61.setTop (mkF m 192 #[.val (.int p1), .val (.int p2), .val (.int p3), .val (.int p4), .val (.int x0), .val (.int x1), .val (.int x2), .val (.ref b1), .val (.ref b5), .val (.int (1 : Int32)), .val (.int (1 : Int32)), .val (.ref b5), .val (.ref b1), .val (.ref b55), .val (.ref b55), .val (.int (1 : Int32)), .val (.ref b1), .val (.ref b1)] [(.int (1 : Int32))])) _
        refine XS.ifNo X61.here hx rfl (hb hby at_192) rfl ((if0 _ _).trans (feq (by decide)).1) ?_
        show Steps p.tables e below (T61.setTop (mkF m 195 #[.val (.int p1), .val (.int p2), .val (.int p3), .val (.int p4), .val (.int x0), .val (.int x1), .val (.int x2), .val (.ref b1), .val (.ref b5), .val (.int (1 : Int32)), .val (.int (1 : Int32)), .val (.ref b5), .val (.ref b1), .val (.ref b55), .val (.ref b55), .val (.int (1 : Int32)), .val (.ref b1), .val (.ref b1)] [])) _
        refine XS.aload X61.here hx rfl (hb hby at_195) rfl rfl ?_
        show Steps p.tables e below (T61.setTop (mkF m 197 #[.val (.int p1), .val (.int p2), .val (.int p3), .val (.int p4), .val (.int x0), .val (.int x1), .val (.int x2), .val (.ref b1), .val (.ref b5), .val (.int (1 : Int32)), .val (.int (1 : Int32)), .val (.ref b5), .val (.ref b1), .val (.ref b55), .val (.ref b55), .val (.int (1 : Int32)), .val (.ref b1), .val (.ref b1)] [(.ref b1)])) _
        refine XS.aload X61.here hx rfl (hb hby at_197) rfl rfl ?_
        show Steps p.tables e below (T61.setTop (mkF m 199 #[.val (.int p1), .val (.int p2), .val (.int p3), .val (.int p4), .val (.int x0), .val (.int x1), .val (.int x2), .val (.ref b1), .val (.ref b5), .val (.int (1 : Int32)), .val (.int (1 : Int32)), .val (.ref b5), .val (.ref b1), .val (.ref b55), .val (.ref b55), .val (.int (1 : Int32)), .val (.ref b1), .val (.ref b1)] [(.ref b1), (.ref b1)])) _
        refine Jvm.RoadKit.acmp (g := (mkF m 199 #[.val (.int p1), .val (.int p2), .val (.int p3), .val (.int p4), .val (.int x0), .val (.int x1), .val (.int x2), .val (.ref b1), .val (.ref b5), .val (.int (1 : Int32)), .val (.int (1 : Int32)), .val (.ref b5), .val (.ref b1), .val (.ref b55), .val (.ref b55), .val (.int (1 : Int32)), .val (.ref b1), .val (.ref b1)] [(.ref b1), (.ref b1)])) X61 hx rfl rfl rfl (pc0 := 199) (pc' := 202) (same := true) rfl (hb hby at_199) rfl (decide_eq_true (congrArg Value.ref rfl)) (by decide) (by decide) ?_
        show Steps p.tables e below (T61.setTop (mkF m 202 #[.val (.int p1), .val (.int p2), .val (.int p3), .val (.int p4), .val (.int x0), .val (.int x1), .val (.int x2), .val (.ref b1), .val (.ref b5), .val (.int (1 : Int32)), .val (.int (1 : Int32)), .val (.ref b5), .val (.ref b1), .val (.ref b55), .val (.ref b55), .val (.int (1 : Int32)), .val (.ref b1), .val (.ref b1)] [])) _
        refine XS.iconst X61.here hx rfl (hb hby at_202) ?_
        show Steps p.tables e below (T61.setTop (mkF m 203 #[.val (.int p1), .val (.int p2), .val (.int p3), .val (.int p4), .val (.int x0), .val (.int x1), .val (.int x2), .val (.ref b1), .val (.ref b5), .val (.int (1 : Int32)), .val (.int (1 : Int32)), .val (.ref b5), .val (.ref b1), .val (.ref b55), .val (.ref b55), .val (.int (1 : Int32)), .val (.ref b1), .val (.ref b1)] [(.int (1 : Int32))])) _
        refine XS.goto X61.here hx rfl (pc0 := 203) (pc' := 207) rfl (hb hby at_203) (by decide) (by decide) ?_
        show Steps p.tables e below (T61.setTop (mkF m 207 #[.val (.int p1), .val (.int p2), .val (.int p3), .val (.int p4), .val (.int x0), .val (.int x1), .val (.int x2), .val (.ref b1), .val (.ref b5), .val (.int (1 : Int32)), .val (.int (1 : Int32)), .val (.ref b5), .val (.ref b1), .val (.ref b55), .val (.ref b55), .val (.int (1 : Int32)), .val (.ref b1), .val (.ref b1)] [(.int (1 : Int32))])) _
        refine XS.istore X61.here hx rfl (hb hby at_207) rfl (l' := #[.val (.int p1), .val (.int p2), .val (.int p3), .val (.int p4), .val (.int x0), .val (.int x1), .val (.int x2), .val (.ref b1), .val (.ref b5), .val (.int (1 : Int32)), .val (.int (1 : Int32)), .val (.ref b5), .val (.ref b1), .val (.ref b55), .val (.ref b55), .val (.int (1 : Int32)), .val (.ref b1), .val (.ref b1)]) rfl ?_
        show Steps p.tables e below (T61.setTop (mkF m 209 #[.val (.int p1), .val (.int p2), .val (.int p3), .val (.int p4), .val (.int x0), .val (.int x1), .val (.int x2), .val (.ref b1), .val (.ref b5), .val (.int (1 : Int32)), .val (.int (1 : Int32)), .val (.ref b5), .val (.ref b1), .val (.ref b55), .val (.ref b55), .val (.int (1 : Int32)), .val (.ref b1), .val (.ref b1)] [])) _
        refine XS.iload X61.here hx rfl (hb hby at_209) rfl ?_
        show Steps p.tables e below (T61.setTop (mkF m 211 #[.val (.int p1), .val (.int p2), .val (.int p3), .val (.int p4), .val (.int x0), .val (.int x1), .val (.int x2), .val (.ref b1), .val (.ref b5), .val (.int (1 : Int32)), .val (.int (1 : Int32)), .val (.ref b5), .val (.ref b1), .val (.ref b55), .val (.ref b55), .val (.int (1 : Int32)), .val (.ref b1), .val (.ref b1)] [(.int (1 : Int32))])) _
        refine XS.ifNo X61.here hx rfl (hb hby at_211) rfl ((if0 _ _).trans (feq (by decide)).1) ?_
        show Steps p.tables e below (T61.setTop (mkF m 214 #[.val (.int p1), .val (.int p2), .val (.int p3), .val (.int p4), .val (.int x0), .val (.int x1), .val (.int x2), .val (.ref b1), .val (.ref b5), .val (.int (1 : Int32)), .val (.int (1 : Int32)), .val (.ref b5), .val (.ref b1), .val (.ref b55), .val (.ref b55), .val (.int (1 : Int32)), .val (.ref b1), .val (.ref b1)] [])) _
        refine XS.aload X61.here hx rfl (hb hby at_214) rfl rfl ?_
        show Steps p.tables e below (T61.setTop (mkF m 216 #[.val (.int p1), .val (.int p2), .val (.int p3), .val (.int p4), .val (.int x0), .val (.int x1), .val (.int x2), .val (.ref b1), .val (.ref b5), .val (.int (1 : Int32)), .val (.int (1 : Int32)), .val (.ref b5), .val (.ref b1), .val (.ref b55), .val (.ref b55), .val (.int (1 : Int32)), .val (.ref b1), .val (.ref b1)] [(.ref b1)])) _
        exact k
      have st62 : ∀ target, Steps p.tables e below (T61.setTop (mkF m 217 #[.val (.int p1), .val (.int p2), .val (.int p3), .val (.int p4), .val (.int x0), .val (.int x1), .val (.int x2), .val (.ref b1), .val (.ref b5), .val (.int (1 : Int32)), .val (.int (1 : Int32)), .val (.ref b5), .val (.ref b1), .val (.ref b55), .val (.ref b55), .val (.int (1 : Int32)), .val (.ref b1), .val (.ref b1)] [(.int (3 : Int32))])) target → Steps p.tables e below (T61.setTop (mkF m 216 #[.val (.int p1), .val (.int p2), .val (.int p3), .val (.int p4), .val (.int x0), .val (.int x1), .val (.int x2), .val (.ref b1), .val (.ref b5), .val (.int (1 : Int32)), .val (.int (1 : Int32)), .val (.ref b5), .val (.ref b1), .val (.ref b55), .val (.ref b55), .val (.int (1 : Int32)), .val (.ref b1), .val (.ref b1)] [(.ref b1)])) target := by
        obtain ⟨cl, Ar, q, Sz, Nn, Hs, Gt⟩ := V4
        intro target kt
        refine X61.arraylength hx (by rw [e61]; exact Ar.1) (State.isArrayOf_alike hZ.alike Ar.2.1) (g := (mkF m 216 #[.val (.int p1), .val (.int p2), .val (.int p3), .val (.int p4), .val (.int x0), .val (.int x1), .val (.int x2), .val (.ref b1), .val (.ref b5), .val (.int (1 : Int32)), .val (.int (1 : Int32)), .val (.ref b5), .val (.ref b1), .val (.ref b55), .val (.ref b55), .val (.int (1 : Int32)), .val (.ref b1), .val (.ref b1)] [(.ref b1)])) rfl rfl (hb hby at_216) _ ?_
        rw [len_of Sz Nn]
        exact kt
      refine own_go (B := T61.setTop (mkF m 217 #[.val (.int p1), .val (.int p2), .val (.int p3), .val (.int p4), .val (.int x0), .val (.int x1), .val (.int x2), .val (.ref b1), .val (.ref b5), .val (.int (1 : Int32)), .val (.int (1 : Int32)), .val (.ref b5), .val (.ref b1), .val (.ref b55), .val (.ref b55), .val (.int (1 : Int32)), .val (.ref b1), .val (.ref b1)] [(.int (3 : Int32))])) st62 ?_
      refine own_go (B := T61.setTop (mkF m 224 #[.val (.int p1), .val (.int p2), .val (.int p3), .val (.int p4), .val (.int x0), .val (.int x1), .val (.int x2), .val (.ref b1), .val (.ref b5), .val (.int (1 : Int32)), .val (.int (1 : Int32)), .val (.ref b5), .val (.ref b1), .val (.ref b55), .val (.ref b55), .val (.int (1 : Int32)), .val (.ref b1), .val (.ref b1)] [(.int (0 : Int32)), (.ref b1)])) (fun t k => ?_) ?_
      · show Steps p.tables e below (T61.setTop (mkF m 217 #[.val (.int p1), .val (.int p2), .val (.int p3), .val (.int p4), .val (.int x0), .val (.int x1), .val (.int x2), .val (.ref b1), .val (.ref b5), .val (.int (1 : Int32)), .val (.int (1 : Int32)), .val (.ref b5), .val (.ref b1), .val (.ref b55), .val (.ref b55), .val (.int (1 : Int32)), .val (.ref b1), .val (.ref b1)] [(.int (3 : Int32))])) _
        refine XS.iconst X61.here hx rfl (hb hby at_217) ?_
        show Steps p.tables e below (T61.setTop (mkF m 218 #[.val (.int p1), .val (.int p2), .val (.int p3), .val (.int p4), .val (.int x0), .val (.int x1), .val (.int x2), .val (.ref b1), .val (.ref b5), .val (.int (1 : Int32)), .val (.int (1 : Int32)), .val (.ref b5), .val (.ref b1), .val (.ref b55), .val (.ref b55), .val (.int (1 : Int32)), .val (.ref b1), .val (.ref b1)] [(.int (3 : Int32)), (.int (3 : Int32))])) _
        refine XS.icmpNo X61.here hx rfl (hb hby at_218) rfl (teq rfl).2 ?_
        show Steps p.tables e below (T61.setTop (mkF m 221 #[.val (.int p1), .val (.int p2), .val (.int p3), .val (.int p4), .val (.int x0), .val (.int x1), .val (.int x2), .val (.ref b1), .val (.ref b5), .val (.int (1 : Int32)), .val (.int (1 : Int32)), .val (.ref b5), .val (.ref b1), .val (.ref b55), .val (.ref b55), .val (.int (1 : Int32)), .val (.ref b1), .val (.ref b1)] [])) _
        refine XS.aload X61.here hx rfl (hb hby at_221) rfl rfl ?_
        show Steps p.tables e below (T61.setTop (mkF m 223 #[.val (.int p1), .val (.int p2), .val (.int p3), .val (.int p4), .val (.int x0), .val (.int x1), .val (.int x2), .val (.ref b1), .val (.ref b5), .val (.int (1 : Int32)), .val (.int (1 : Int32)), .val (.ref b5), .val (.ref b1), .val (.ref b55), .val (.ref b55), .val (.int (1 : Int32)), .val (.ref b1), .val (.ref b1)] [(.ref b1)])) _
        refine XS.iconst X61.here hx rfl (hb hby at_223) ?_
        show Steps p.tables e below (T61.setTop (mkF m 224 #[.val (.int p1), .val (.int p2), .val (.int p3), .val (.int p4), .val (.int x0), .val (.int x1), .val (.int x2), .val (.ref b1), .val (.ref b5), .val (.int (1 : Int32)), .val (.int (1 : Int32)), .val (.ref b5), .val (.ref b1), .val (.ref b55), .val (.ref b55), .val (.int (1 : Int32)), .val (.ref b1), .val (.ref b1)] [(.int (0 : Int32)), (.ref b1)])) _
        exact k
      obtain ⟨cl63, Ar63, q63, Sz63, Nn63, Hs63, Gt63⟩ := V4
      have hin63 : ¬ ((0 : Int32) < 0 ∨ cl63.slots.size ≤ ((0 : Int32)).toNatClampNeg) := inb_of Sz63 ⟨by decide, by decide⟩
      have hat63 : cl63.slots[((0 : Int32)).toNatClampNeg]? = some (.int x0) := Hs63.at hin63 rfl
      have st63 := X61.caload hx (j := (0 : Int32)) (v := (.int x0)) (by rw [e61]; exact Ar63.1) (State.isArrayOf_alike hZ.alike Ar63.2.1) Ar63.2.2 hin63 hat63 (g := (mkF m 224 #[.val (.int p1), .val (.int p2), .val (.int p3), .val (.int p4), .val (.int x0), .val (.int x1), .val (.int x2), .val (.ref b1), .val (.ref b5), .val (.int (1 : Int32)), .val (.int (1 : Int32)), .val (.ref b5), .val (.ref b1), .val (.ref b55), .val (.ref b55), .val (.int (1 : Int32)), .val (.ref b1), .val (.ref b1)] [(.int (0 : Int32)), (.ref b1)])) rfl rfl (hb hby at_224)
      have V63 : Arv Z T59.heap b1 k1 .char (3 : Int32) [(.int x0), (.int x1), (.int x2)] (.int (0 : Int32)) := ⟨cl63, Ar63, q63, Sz63, Nn63, Hs63, Gt63⟩
      refine own_go (B := T61.setTop (mkF m 225 #[.val (.int p1), .val (.int p2), .val (.int p3), .val (.int p4), .val (.int x0), .val (.int x1), .val (.int x2), .val (.ref b1), .val (.ref b5), .val (.int (1 : Int32)), .val (.int (1 : Int32)), .val (.ref b5), .val (.ref b1), .val (.ref b55), .val (.ref b55), .val (.int (1 : Int32)), .val (.ref b1), .val (.ref b1)] [(.int x0)])) st63 ?_
      refine own_go (B := T61.setTop (mkF m 233 #[.val (.int p1), .val (.int p2), .val (.int p3), .val (.int p4), .val (.int x0), .val (.int x1), .val (.int x2), .val (.ref b1), .val (.ref b5), .val (.int (1 : Int32)), .val (.int (1 : Int32)), .val (.ref b5), .val (.ref b1), .val (.ref b55), .val (.ref b55), .val (.int (1 : Int32)), .val (.ref b1), .val (.ref b1)] [(.int (1 : Int32)), (.ref b1)])) (fun t k => ?_) ?_
      · show Steps p.tables e below (T61.setTop (mkF m 225 #[.val (.int p1), .val (.int p2), .val (.int p3), .val (.int p4), .val (.int x0), .val (.int x1), .val (.int x2), .val (.ref b1), .val (.ref b5), .val (.int (1 : Int32)), .val (.int (1 : Int32)), .val (.ref b5), .val (.ref b1), .val (.ref b55), .val (.ref b55), .val (.int (1 : Int32)), .val (.ref b1), .val (.ref b1)] [(.int x0)])) _
        refine XS.iload X61.here hx rfl (hb hby at_225) rfl ?_
        show Steps p.tables e below (T61.setTop (mkF m 227 #[.val (.int p1), .val (.int p2), .val (.int p3), .val (.int p4), .val (.int x0), .val (.int x1), .val (.int x2), .val (.ref b1), .val (.ref b5), .val (.int (1 : Int32)), .val (.int (1 : Int32)), .val (.ref b5), .val (.ref b1), .val (.ref b55), .val (.ref b55), .val (.int (1 : Int32)), .val (.ref b1), .val (.ref b1)] [(.int x0), (.int x0)])) _
        refine XS.icmpNo X61.here hx rfl (hb hby at_227) rfl (teq rfl).2 ?_
        show Steps p.tables e below (T61.setTop (mkF m 230 #[.val (.int p1), .val (.int p2), .val (.int p3), .val (.int p4), .val (.int x0), .val (.int x1), .val (.int x2), .val (.ref b1), .val (.ref b5), .val (.int (1 : Int32)), .val (.int (1 : Int32)), .val (.ref b5), .val (.ref b1), .val (.ref b55), .val (.ref b55), .val (.int (1 : Int32)), .val (.ref b1), .val (.ref b1)] [])) _
        refine XS.aload X61.here hx rfl (hb hby at_230) rfl rfl ?_
        show Steps p.tables e below (T61.setTop (mkF m 232 #[.val (.int p1), .val (.int p2), .val (.int p3), .val (.int p4), .val (.int x0), .val (.int x1), .val (.int x2), .val (.ref b1), .val (.ref b5), .val (.int (1 : Int32)), .val (.int (1 : Int32)), .val (.ref b5), .val (.ref b1), .val (.ref b55), .val (.ref b55), .val (.int (1 : Int32)), .val (.ref b1), .val (.ref b1)] [(.ref b1)])) _
        refine XS.iconst X61.here hx rfl (hb hby at_232) ?_
        show Steps p.tables e below (T61.setTop (mkF m 233 #[.val (.int p1), .val (.int p2), .val (.int p3), .val (.int p4), .val (.int x0), .val (.int x1), .val (.int x2), .val (.ref b1), .val (.ref b5), .val (.int (1 : Int32)), .val (.int (1 : Int32)), .val (.ref b5), .val (.ref b1), .val (.ref b55), .val (.ref b55), .val (.int (1 : Int32)), .val (.ref b1), .val (.ref b1)] [(.int (1 : Int32)), (.ref b1)])) _
        exact k
      obtain ⟨cl64, Ar64, q64, Sz64, Nn64, Hs64, Gt64⟩ := V63
      have hin64 : ¬ ((1 : Int32) < 0 ∨ cl64.slots.size ≤ ((1 : Int32)).toNatClampNeg) := inb_of Sz64 ⟨by decide, by decide⟩
      have hat64 : cl64.slots[((1 : Int32)).toNatClampNeg]? = some (.int x1) := Hs64.at hin64 rfl
      have st64 := X61.caload hx (j := (1 : Int32)) (v := (.int x1)) (by rw [e61]; exact Ar64.1) (State.isArrayOf_alike hZ.alike Ar64.2.1) Ar64.2.2 hin64 hat64 (g := (mkF m 233 #[.val (.int p1), .val (.int p2), .val (.int p3), .val (.int p4), .val (.int x0), .val (.int x1), .val (.int x2), .val (.ref b1), .val (.ref b5), .val (.int (1 : Int32)), .val (.int (1 : Int32)), .val (.ref b5), .val (.ref b1), .val (.ref b55), .val (.ref b55), .val (.int (1 : Int32)), .val (.ref b1), .val (.ref b1)] [(.int (1 : Int32)), (.ref b1)])) rfl rfl (hb hby at_233)
      have V64 : Arv Z T59.heap b1 k1 .char (3 : Int32) [(.int x0), (.int x1), (.int x2)] (.int (0 : Int32)) := ⟨cl64, Ar64, q64, Sz64, Nn64, Hs64, Gt64⟩
      refine own_go (B := T61.setTop (mkF m 234 #[.val (.int p1), .val (.int p2), .val (.int p3), .val (.int p4), .val (.int x0), .val (.int x1), .val (.int x2), .val (.ref b1), .val (.ref b5), .val (.int (1 : Int32)), .val (.int (1 : Int32)), .val (.ref b5), .val (.ref b1), .val (.ref b55), .val (.ref b55), .val (.int (1 : Int32)), .val (.ref b1), .val (.ref b1)] [(.int x1)])) st64 ?_
      refine own_go (B := T61.setTop (mkF m 242 #[.val (.int p1), .val (.int p2), .val (.int p3), .val (.int p4), .val (.int x0), .val (.int x1), .val (.int x2), .val (.ref b1), .val (.ref b5), .val (.int (1 : Int32)), .val (.int (1 : Int32)), .val (.ref b5), .val (.ref b1), .val (.ref b55), .val (.ref b55), .val (.int (1 : Int32)), .val (.ref b1), .val (.ref b1)] [(.int (2 : Int32)), (.ref b1)])) (fun t k => ?_) ?_
      · show Steps p.tables e below (T61.setTop (mkF m 234 #[.val (.int p1), .val (.int p2), .val (.int p3), .val (.int p4), .val (.int x0), .val (.int x1), .val (.int x2), .val (.ref b1), .val (.ref b5), .val (.int (1 : Int32)), .val (.int (1 : Int32)), .val (.ref b5), .val (.ref b1), .val (.ref b55), .val (.ref b55), .val (.int (1 : Int32)), .val (.ref b1), .val (.ref b1)] [(.int x1)])) _
        refine XS.iload X61.here hx rfl (hb hby at_234) rfl ?_
        show Steps p.tables e below (T61.setTop (mkF m 236 #[.val (.int p1), .val (.int p2), .val (.int p3), .val (.int p4), .val (.int x0), .val (.int x1), .val (.int x2), .val (.ref b1), .val (.ref b5), .val (.int (1 : Int32)), .val (.int (1 : Int32)), .val (.ref b5), .val (.ref b1), .val (.ref b55), .val (.ref b55), .val (.int (1 : Int32)), .val (.ref b1), .val (.ref b1)] [(.int x1), (.int x1)])) _
        refine XS.icmpNo X61.here hx rfl (hb hby at_236) rfl (teq rfl).2 ?_
        show Steps p.tables e below (T61.setTop (mkF m 239 #[.val (.int p1), .val (.int p2), .val (.int p3), .val (.int p4), .val (.int x0), .val (.int x1), .val (.int x2), .val (.ref b1), .val (.ref b5), .val (.int (1 : Int32)), .val (.int (1 : Int32)), .val (.ref b5), .val (.ref b1), .val (.ref b55), .val (.ref b55), .val (.int (1 : Int32)), .val (.ref b1), .val (.ref b1)] [])) _
        refine XS.aload X61.here hx rfl (hb hby at_239) rfl rfl ?_
        show Steps p.tables e below (T61.setTop (mkF m 241 #[.val (.int p1), .val (.int p2), .val (.int p3), .val (.int p4), .val (.int x0), .val (.int x1), .val (.int x2), .val (.ref b1), .val (.ref b5), .val (.int (1 : Int32)), .val (.int (1 : Int32)), .val (.ref b5), .val (.ref b1), .val (.ref b55), .val (.ref b55), .val (.int (1 : Int32)), .val (.ref b1), .val (.ref b1)] [(.ref b1)])) _
        refine XS.iconst X61.here hx rfl (hb hby at_241) ?_
        show Steps p.tables e below (T61.setTop (mkF m 242 #[.val (.int p1), .val (.int p2), .val (.int p3), .val (.int p4), .val (.int x0), .val (.int x1), .val (.int x2), .val (.ref b1), .val (.ref b5), .val (.int (1 : Int32)), .val (.int (1 : Int32)), .val (.ref b5), .val (.ref b1), .val (.ref b55), .val (.ref b55), .val (.int (1 : Int32)), .val (.ref b1), .val (.ref b1)] [(.int (2 : Int32)), (.ref b1)])) _
        exact k
      obtain ⟨cl65, Ar65, q65, Sz65, Nn65, Hs65, Gt65⟩ := V64
      have hin65 : ¬ ((2 : Int32) < 0 ∨ cl65.slots.size ≤ ((2 : Int32)).toNatClampNeg) := inb_of Sz65 ⟨by decide, by decide⟩
      have hat65 : cl65.slots[((2 : Int32)).toNatClampNeg]? = some (.int x2) := Hs65.at hin65 rfl
      have st65 := X61.caload hx (j := (2 : Int32)) (v := (.int x2)) (by rw [e61]; exact Ar65.1) (State.isArrayOf_alike hZ.alike Ar65.2.1) Ar65.2.2 hin65 hat65 (g := (mkF m 242 #[.val (.int p1), .val (.int p2), .val (.int p3), .val (.int p4), .val (.int x0), .val (.int x1), .val (.int x2), .val (.ref b1), .val (.ref b5), .val (.int (1 : Int32)), .val (.int (1 : Int32)), .val (.ref b5), .val (.ref b1), .val (.ref b55), .val (.ref b55), .val (.int (1 : Int32)), .val (.ref b1), .val (.ref b1)] [(.int (2 : Int32)), (.ref b1)])) rfl rfl (hb hby at_242)
      have V65 : Arv Z T59.heap b1 k1 .char (3 : Int32) [(.int x0), (.int x1), (.int x2)] (.int (0 : Int32)) := ⟨cl65, Ar65, q65, Sz65, Nn65, Hs65, Gt65⟩
      refine own_go (B := T61.setTop (mkF m 243 #[.val (.int p1), .val (.int p2), .val (.int p3), .val (.int p4), .val (.int x0), .val (.int x1), .val (.int x2), .val (.ref b1), .val (.ref b5), .val (.int (1 : Int32)), .val (.int (1 : Int32)), .val (.ref b5), .val (.ref b1), .val (.ref b55), .val (.ref b55), .val (.int (1 : Int32)), .val (.ref b1), .val (.ref b1)] [(.int x2)])) st65 ?_
      refine own_go (B := T61.setTop (mkF m 262 #[.val (.int p1), .val (.int p2), .val (.int p3), .val (.int p4), .val (.int x0), .val (.int x1), .val (.int x2), .val (.ref b1), .val (.ref b5), .val (.int (1 : Int32)), .val (.int (1 : Int32)), .val (.ref b5), .val (.ref b1), .val (.ref b55), .val (.ref b55), .val (.int (1 : Int32)), .val (.ref b1), .val (.ref b1)] [(.ref b5)])) (fun t k => ?_) ?_
      · show Steps p.tables e below (T61.setTop (mkF m 243 #[.val (.int p1), .val (.int p2), .val (.int p3), .val (.int p4), .val (.int x0), .val (.int x1), .val (.int x2), .val (.ref b1), .val (.ref b5), .val (.int (1 : Int32)), .val (.int (1 : Int32)), .val (.ref b5), .val (.ref b1), .val (.ref b55), .val (.ref b55), .val (.int (1 : Int32)), .val (.ref b1), .val (.ref b1)] [(.int x2)])) _
        refine XS.iload X61.here hx rfl (hb hby at_243) rfl ?_
        show Steps p.tables e below (T61.setTop (mkF m 245 #[.val (.int p1), .val (.int p2), .val (.int p3), .val (.int p4), .val (.int x0), .val (.int x1), .val (.int x2), .val (.ref b1), .val (.ref b5), .val (.int (1 : Int32)), .val (.int (1 : Int32)), .val (.ref b5), .val (.ref b1), .val (.ref b55), .val (.ref b55), .val (.int (1 : Int32)), .val (.ref b1), .val (.ref b1)] [(.int x2), (.int x2)])) _
        refine XS.icmpNo X61.here hx rfl (hb hby at_245) rfl (teq rfl).2 ?_
        show Steps p.tables e below (T61.setTop (mkF m 248 #[.val (.int p1), .val (.int p2), .val (.int p3), .val (.int p4), .val (.int x0), .val (.int x1), .val (.int x2), .val (.ref b1), .val (.ref b5), .val (.int (1 : Int32)), .val (.int (1 : Int32)), .val (.ref b5), .val (.ref b1), .val (.ref b55), .val (.ref b55), .val (.int (1 : Int32)), .val (.ref b1), .val (.ref b1)] [])) _
        refine XS.iconst X61.here hx rfl (hb hby at_248) ?_
        show Steps p.tables e below (T61.setTop (mkF m 249 #[.val (.int p1), .val (.int p2), .val (.int p3), .val (.int p4), .val (.int x0), .val (.int x1), .val (.int x2), .val (.ref b1), .val (.ref b5), .val (.int (1 : Int32)), .val (.int (1 : Int32)), .val (.ref b5), .val (.ref b1), .val (.ref b55), .val (.ref b55), .val (.int (1 : Int32)), .val (.ref b1), .val (.ref b1)] [(.int (1 : Int32))])) _
        refine XS.goto X61.here hx rfl (pc0 := 249) (pc' := 253) rfl (hb hby at_249) (by decide) (by decide) ?_
        show Steps p.tables e below (T61.setTop (mkF m 253 #[.val (.int p1), .val (.int p2), .val (.int p3), .val (.int p4), .val (.int x0), .val (.int x1), .val (.int x2), .val (.ref b1), .val (.ref b5), .val (.int (1 : Int32)), .val (.int (1 : Int32)), .val (.ref b5), .val (.ref b1), .val (.ref b55), .val (.ref b55), .val (.int (1 : Int32)), .val (.ref b1), .val (.ref b1)] [(.int (1 : Int32))])) _
        refine XS.istore X61.here hx rfl (hb hby at_253) rfl (l' := #[.val (.int p1), .val (.int p2), .val (.int p3), .val (.int p4), .val (.int x0), .val (.int x1), .val (.int x2), .val (.ref b1), .val (.ref b5), .val (.int (1 : Int32)), .val (.int (1 : Int32)), .val (.ref b5), .val (.ref b1), .val (.ref b55), .val (.ref b55), .val (.int (1 : Int32)), .val (.ref b1), .val (.ref b1)]) rfl ?_
        show Steps p.tables e below (T61.setTop (mkF m 255 #[.val (.int p1), .val (.int p2), .val (.int p3), .val (.int p4), .val (.int x0), .val (.int x1), .val (.int x2), .val (.ref b1), .val (.ref b5), .val (.int (1 : Int32)), .val (.int (1 : Int32)), .val (.ref b5), .val (.ref b1), .val (.ref b55), .val (.ref b55), .val (.int (1 : Int32)), .val (.ref b1), .val (.ref b1)] [])) _
        refine XS.iload X61.here hx rfl (hb hby at_255) rfl ?_
        show Steps p.tables e below (T61.setTop (mkF m 257 #[.val (.int p1), .val (.int p2), .val (.int p3), .val (.int p4), .val (.int x0), .val (.int x1), .val (.int x2), .val (.ref b1), .val (.ref b5), .val (.int (1 : Int32)), .val (.int (1 : Int32)), .val (.ref b5), .val (.ref b1), .val (.ref b55), .val (.ref b55), .val (.int (1 : Int32)), .val (.ref b1), .val (.ref b1)] [(.int (1 : Int32))])) _
        refine XS.ifNo X61.here hx rfl (hb hby at_257) rfl ((if0 _ _).trans (feq (by decide)).1) ?_
        show Steps p.tables e below (T61.setTop (mkF m 260 #[.val (.int p1), .val (.int p2), .val (.int p3), .val (.int p4), .val (.int x0), .val (.int x1), .val (.int x2), .val (.ref b1), .val (.ref b5), .val (.int (1 : Int32)), .val (.int (1 : Int32)), .val (.ref b5), .val (.ref b1), .val (.ref b55), .val (.ref b55), .val (.int (1 : Int32)), .val (.ref b1), .val (.ref b1)] [])) _
        refine XS.aload X61.here hx rfl (hb hby at_260) rfl rfl ?_
        show Steps p.tables e below (T61.setTop (mkF m 262 #[.val (.int p1), .val (.int p2), .val (.int p3), .val (.int p4), .val (.int x0), .val (.int x1), .val (.int x2), .val (.ref b1), .val (.ref b5), .val (.int (1 : Int32)), .val (.int (1 : Int32)), .val (.ref b5), .val (.ref b1), .val (.ref b55), .val (.ref b55), .val (.int (1 : Int32)), .val (.ref b1), .val (.ref b1)] [(.ref b5)])) _
        exact k
      have st66 : ∀ target, Steps p.tables e below (T61.setTop (mkF m 263 #[.val (.int p1), .val (.int p2), .val (.int p3), .val (.int p4), .val (.int x0), .val (.int x1), .val (.int x2), .val (.ref b1), .val (.ref b5), .val (.int (1 : Int32)), .val (.int (1 : Int32)), .val (.ref b5), .val (.ref b1), .val (.ref b55), .val (.ref b55), .val (.int (1 : Int32)), .val (.ref b1), .val (.ref b1)] [(.int (0 : Int32))])) target → Steps p.tables e below (T61.setTop (mkF m 262 #[.val (.int p1), .val (.int p2), .val (.int p3), .val (.int p4), .val (.int x0), .val (.int x1), .val (.int x2), .val (.ref b1), .val (.ref b5), .val (.int (1 : Int32)), .val (.int (1 : Int32)), .val (.ref b5), .val (.ref b1), .val (.ref b55), .val (.ref b55), .val (.int (1 : Int32)), .val (.ref b1), .val (.ref b1)] [(.ref b5)])) target := by
        obtain ⟨cl, Ar, q, Sz, Nn, Hs, Gt⟩ := V5
        intro target kt
        refine X61.arraylength hx (by rw [e61]; exact Ar.1) (State.isArrayOf_alike hZ.alike Ar.2.1) (g := (mkF m 262 #[.val (.int p1), .val (.int p2), .val (.int p3), .val (.int p4), .val (.int x0), .val (.int x1), .val (.int x2), .val (.ref b1), .val (.ref b5), .val (.int (1 : Int32)), .val (.int (1 : Int32)), .val (.ref b5), .val (.ref b1), .val (.ref b55), .val (.ref b55), .val (.int (1 : Int32)), .val (.ref b1), .val (.ref b1)] [(.ref b5)])) rfl rfl (hb hby at_262) _ ?_
        rw [len_of Sz Nn]
        exact kt
      refine own_go (B := T61.setTop (mkF m 263 #[.val (.int p1), .val (.int p2), .val (.int p3), .val (.int p4), .val (.int x0), .val (.int x1), .val (.int x2), .val (.ref b1), .val (.ref b5), .val (.int (1 : Int32)), .val (.int (1 : Int32)), .val (.ref b5), .val (.ref b1), .val (.ref b55), .val (.ref b55), .val (.int (1 : Int32)), .val (.ref b1), .val (.ref b1)] [(.int (0 : Int32))])) st66 ?_
      refine own_go (B := T61.setTop (mkF m 280 #[.val (.int p1), .val (.int p2), .val (.int p3), .val (.int p4), .val (.int x0), .val (.int x1), .val (.int x2), .val (.ref b1), .val (.ref b5), .val (.int (1 : Int32)), .val (.int (1 : Int32)), .val (.ref b5), .val (.ref b1), .val (.ref b55), .val (.ref b55), .val (.int (1 : Int32)), .val (.ref b1), .val (.ref b1)] [(.ref b55)])) (fun t k => ?_) ?_
      · show Steps p.tables e below (T61.setTop (mkF m 263 #[.val (.int p1), .val (.int p2), .val (.int p3), .val (.int p4), .val (.int x0), .val (.int x1), .val (.int x2), .val (.ref b1), .val (.ref b5), .val (.int (1 : Int32)), .val (.int (1 : Int32)), .val (.ref b5), .val (.ref b1), .val (.ref b55), .val (.ref b55), .val (.int (1 : Int32)), .val (.ref b1), .val (.ref b1)] [(.int (0 : Int32))])) _
        refine XS.ifNo X61.here hx rfl (hb hby at_263) rfl ((if0 _ _).trans (teq (by decide)).2) ?_
        show Steps p.tables e below (T61.setTop (mkF m 266 #[.val (.int p1), .val (.int p2), .val (.int p3), .val (.int p4), .val (.int x0), .val (.int x1), .val (.int x2), .val (.ref b1), .val (.ref b5), .val (.int (1 : Int32)), .val (.int (1 : Int32)), .val (.ref b5), .val (.ref b1), .val (.ref b55), .val (.ref b55), .val (.int (1 : Int32)), .val (.ref b1), .val (.ref b1)] [])) _
        refine XS.iconst X61.here hx rfl (hb hby at_266) ?_
        show Steps p.tables e below (T61.setTop (mkF m 267 #[.val (.int p1), .val (.int p2), .val (.int p3), .val (.int p4), .val (.int x0), .val (.int x1), .val (.int x2), .val (.ref b1), .val (.ref b5), .val (.int (1 : Int32)), .val (.int (1 : Int32)), .val (.ref b5), .val (.ref b1), .val (.ref b55), .val (.ref b55), .val (.int (1 : Int32)), .val (.ref b1), .val (.ref b1)] [(.int (1 : Int32))])) _
        refine XS.goto X61.here hx rfl (pc0 := 267) (pc' := 271) rfl (hb hby at_267) (by decide) (by decide) ?_
        show Steps p.tables e below (T61.setTop (mkF m 271 #[.val (.int p1), .val (.int p2), .val (.int p3), .val (.int p4), .val (.int x0), .val (.int x1), .val (.int x2), .val (.ref b1), .val (.ref b5), .val (.int (1 : Int32)), .val (.int (1 : Int32)), .val (.ref b5), .val (.ref b1), .val (.ref b55), .val (.ref b55), .val (.int (1 : Int32)), .val (.ref b1), .val (.ref b1)] [(.int (1 : Int32))])) _
        refine XS.istore X61.here hx rfl (hb hby at_271) rfl (l' := #[.val (.int p1), .val (.int p2), .val (.int p3), .val (.int p4), .val (.int x0), .val (.int x1), .val (.int x2), .val (.ref b1), .val (.ref b5), .val (.int (1 : Int32)), .val (.int (1 : Int32)), .val (.ref b5), .val (.ref b1), .val (.ref b55), .val (.ref b55), .val (.int (1 : Int32)), .val (.ref b1), .val (.ref b1)]) rfl ?_
        show Steps p.tables e below (T61.setTop (mkF m 273 #[.val (.int p1), .val (.int p2), .val (.int p3), .val (.int p4), .val (.int x0), .val (.int x1), .val (.int x2), .val (.ref b1), .val (.ref b5), .val (.int (1 : Int32)), .val (.int (1 : Int32)), .val (.ref b5), .val (.ref b1), .val (.ref b55), .val (.ref b55), .val (.int (1 : Int32)), .val (.ref b1), .val (.ref b1)] [])) _
        refine XS.iload X61.here hx rfl (hb hby at_273) rfl ?_
        show Steps p.tables e below (T61.setTop (mkF m 275 #[.val (.int p1), .val (.int p2), .val (.int p3), .val (.int p4), .val (.int x0), .val (.int x1), .val (.int x2), .val (.ref b1), .val (.ref b5), .val (.int (1 : Int32)), .val (.int (1 : Int32)), .val (.ref b5), .val (.ref b1), .val (.ref b55), .val (.ref b55), .val (.int (1 : Int32)), .val (.ref b1), .val (.ref b1)] [(.int (1 : Int32))])) _
        refine XS.ifNo X61.here hx rfl (hb hby at_275) rfl ((if0 _ _).trans (feq (by decide)).1) ?_
        show Steps p.tables e below (T61.setTop (mkF m 278 #[.val (.int p1), .val (.int p2), .val (.int p3), .val (.int p4), .val (.int x0), .val (.int x1), .val (.int x2), .val (.ref b1), .val (.ref b5), .val (.int (1 : Int32)), .val (.int (1 : Int32)), .val (.ref b5), .val (.ref b1), .val (.ref b55), .val (.ref b55), .val (.int (1 : Int32)), .val (.ref b1), .val (.ref b1)] [])) _
        refine XS.aload X61.here hx rfl (hb hby at_278) rfl rfl ?_
        show Steps p.tables e below (T61.setTop (mkF m 280 #[.val (.int p1), .val (.int p2), .val (.int p3), .val (.int p4), .val (.int x0), .val (.int x1), .val (.int x2), .val (.ref b1), .val (.ref b5), .val (.int (1 : Int32)), .val (.int (1 : Int32)), .val (.ref b5), .val (.ref b1), .val (.ref b55), .val (.ref b55), .val (.int (1 : Int32)), .val (.ref b1), .val (.ref b1)] [(.ref b55)])) _
        exact k
      -- pc 280: com/example/fixity/fixity/engine/AccountRequest.role
      obtain ⟨cq67, kq67, q67a, q67b, q67c⟩ := isOf hZ e61 A55
      obtain ⟨_, _, ⟨T67, L67, k67, n67⟩, -, X67, ⟨Lc67, hQ67, l67, y67, z67⟩, st67⟩ := X61.virtualBack hx (y := (⟨"com/example/fixity/fixity/engine/AccountRequest", "role", "()Ljava/util/Optional;"⟩ : MethodName)) (z := (⟨"com/example/fixity/fixity/engine/AccountRequest", "role", "()Ljava/util/Optional;"⟩ : MethodName)) hown (mvT hZ (hw _ (List.mem_of_getElem? (i := 58) rfl))) (mvT hZ (hw _ (List.mem_of_getElem? (i := 59) rfl))) (notFace_of_selects (args := #[]) (mvT hZ (hw _ (List.mem_of_getElem? (i := 61) rfl)))) (mvT hZ (hw _ (List.mem_of_getElem? (i := 61) rfl))) (mvT hZ (hw _ (List.mem_of_getElem? (i := 60) rfl))) (by decide) (backOf (W := 0) (rmG0role l Z a0 hw [] b55 wE T59.heap n0 O Gq58_2 S_E) hZ (hw _ (List.mem_of_getElem? (i := 62) rfl)) (hw _ (List.mem_of_getElem? (i := 4) rfl)) (by decide) (by decide)) q67a q67c (g := (mkF m 280 #[.val (.int p1), .val (.int p2), .val (.int p3), .val (.int p4), .val (.int x0), .val (.int x1), .val (.int x2), .val (.ref b1), .val (.ref b5), .val (.int (1 : Int32)), .val (.int (1 : Int32)), .val (.ref b5), .val (.ref b1), .val (.ref b55), .val (.ref b55), .val (.int (1 : Int32)), .val (.ref b1), .val (.ref b1)] [(.ref b55)])) rfl (by rw [hml]; rfl) (Steps.refl _) (argsL := []) (rest := []) (lenOf pd_5 rfl) rfl (by show 2 * 0 + _ ≤ _; exact Nat.le_of_eq rfl) (hb hby at_280) (fun _ hWm => ⟨rfl, e61, (by decide : 8 + 0 ≤ _), (by decide : 83 + 0 ≤ _)⟩)
      dsimp only [Pt.U, Pt.locs, Pt.cells, Pt.slots] at X67 l67 y67 z67 st67 hQ67
      subst l67 y67 z67
      obtain ⟨rfl, Nq67, Kq67⟩ := hQ67
      replace N := Fr.app N Nq67
      refine own_go (B := T67.setTop (mkF m 283 #[.val (.int p1), .val (.int p2), .val (.int p3), .val (.int p4), .val (.int x0), .val (.int x1), .val (.int x2), .val (.ref b1), .val (.ref b5), .val (.int (1 : Int32)), .val (.int (1 : Int32)), .val (.ref b5), .val (.ref b1), .val (.ref b55), .val (.ref b55), .val (.int (1 : Int32)), .val (.ref b1), .val (.ref b1)] [(.ref wE)])) (fun t k => st67.trans k) ?_
      refine own_go (B := T67.setTop (mkF m 284 #[.val (.int p1), .val (.int p2), .val (.int p3), .val (.int p4), .val (.int x0), .val (.int x1), .val (.int x2), .val (.ref b1), .val (.ref b5), .val (.int (1 : Int32)), .val (.int (1 : Int32)), .val (.ref b5), .val (.ref b1), .val (.ref b55), .val (.ref b55), .val (.int (1 : Int32)), .val (.ref b1), .val (.ref b1)] [.null, (.ref wE)])) (fun t k => ?_) ?_
      · show Steps p.tables e below (T67.setTop (mkF m 283 #[.val (.int p1), .val (.int p2), .val (.int p3), .val (.int p4), .val (.int x0), .val (.int x1), .val (.int x2), .val (.ref b1), .val (.ref b5), .val (.int (1 : Int32)), .val (.int (1 : Int32)), .val (.ref b5), .val (.ref b1), .val (.ref b55), .val (.ref b55), .val (.int (1 : Int32)), .val (.ref b1), .val (.ref b1)] [(.ref wE)])) _
        refine XS.aconstNull X67.here hx rfl (hb hby at_283) ?_
        show Steps p.tables e below (T67.setTop (mkF m 284 #[.val (.int p1), .val (.int p2), .val (.int p3), .val (.int p4), .val (.int x0), .val (.int x1), .val (.int x2), .val (.ref b1), .val (.ref b5), .val (.int (1 : Int32)), .val (.int (1 : Int32)), .val (.ref b5), .val (.ref b1), .val (.ref b55), .val (.ref b55), .val (.int (1 : Int32)), .val (.ref b1), .val (.ref b1)] [.null, (.ref wE)])) _
        exact k
      -- pc 284: java/util/Optional.orElse
      obtain ⟨cq68, kq68, q68a, q68b, q68c⟩ := isOf hZ Kq67 (E_E.ext O.2)
      obtain ⟨_, _, ⟨T68, L68, k68, n68⟩, -, X68, ⟨Lc68, hQ68, l68, y68, z68⟩, st68⟩ := X67.virtualBack hx (y := (⟨"java/util/Optional", "orElse", "(Ljava/lang/Object;)Ljava/lang/Object;"⟩ : MethodName)) (z := (⟨"java/util/Optional", "orElse", "(Ljava/lang/Object;)Ljava/lang/Object;"⟩ : MethodName)) hown (mvT hZ (hw _ (List.mem_of_getElem? (i := 52) rfl))) (mvT hZ (hw _ (List.mem_of_getElem? (i := 53) rfl))) (notFace_of_selects (args := #[]) (mvT hZ (hw _ (List.mem_of_getElem? (i := 55) rfl)))) (mvT hZ (hw _ (List.mem_of_getElem? (i := 55) rfl))) (mvT hZ (hw _ (List.mem_of_getElem? (i := 54) rfl))) (by decide) (backOf (W := 0) (rmOE0 l Z a0 hw [] wE T59.heap n0 O (F_E.ext O.2)) hZ (hw _ (List.mem_of_getElem? (i := 56) rfl)) (hw _ (List.mem_of_getElem? (i := 41) rfl)) (by decide) (by decide)) q68a q68c (g := (mkF m 284 #[.val (.int p1), .val (.int p2), .val (.int p3), .val (.int p4), .val (.int x0), .val (.int x1), .val (.int x2), .val (.ref b1), .val (.ref b5), .val (.int (1 : Int32)), .val (.int (1 : Int32)), .val (.ref b5), .val (.ref b1), .val (.ref b55), .val (.ref b55), .val (.int (1 : Int32)), .val (.ref b1), .val (.ref b1)] [.null, (.ref wE)])) rfl (by rw [hml]; rfl) (Steps.refl _) (argsL := [.null]) (rest := []) (lenOf pd_6 rfl) rfl (by show 2 * 0 + _ ≤ _; exact Nat.le_of_eq rfl) (hb hby at_284) (fun _ hWm => ⟨rfl, Kq67, (by decide : 8 + 0 ≤ _), (by decide : 83 + 0 ≤ _)⟩)
      dsimp only [Pt.U, Pt.locs, Pt.cells, Pt.slots] at X68 l68 y68 z68 st68 hQ68
      subst l68 y68 z68
      obtain ⟨rfl, Nq68, Kq68⟩ := hQ68
      replace N := Fr.app N Nq68
      refine own_go (B := T68.setTop (mkF m 287 #[.val (.int p1), .val (.int p2), .val (.int p3), .val (.int p4), .val (.int x0), .val (.int x1), .val (.int x2), .val (.ref b1), .val (.ref b5), .val (.int (1 : Int32)), .val (.int (1 : Int32)), .val (.ref b5), .val (.ref b1), .val (.ref b55), .val (.ref b55), .val (.int (1 : Int32)), .val (.ref b1), .val (.ref b1)] [.null])) (fun t k => st68.trans k) ?_
      refine own_go (B := T68.setTop (mkF m 304 #[.val (.int p1), .val (.int p2), .val (.int p3), .val (.int p4), .val (.int x0), .val (.int x1), .val (.int x2), .val (.ref b1), .val (.ref b5), .val (.int (1 : Int32)), .val (.int (1 : Int32)), .val (.ref b5), .val (.ref b1), .val (.ref b55), .val (.ref b55), .val (.int (1 : Int32)), .val (.ref b1), .val (.ref b1)] [(.ref b55)])) (fun t k => ?_) ?_
      · show Steps p.tables e below (T68.setTop (mkF m 287 #[.val (.int p1), .val (.int p2), .val (.int p3), .val (.int p4), .val (.int x0), .val (.int x1), .val (.int x2), .val (.ref b1), .val (.ref b5), .val (.int (1 : Int32)), .val (.int (1 : Int32)), .val (.ref b5), .val (.ref b1), .val (.ref b55), .val (.ref b55), .val (.int (1 : Int32)), .val (.ref b1), .val (.ref b1)] [.null])) _
        refine XT.ifnonnullNo X68.here hx rfl (hb hby at_287) rfl ?_
        show Steps p.tables e below (T68.setTop (mkF m 290 #[.val (.int p1), .val (.int p2), .val (.int p3), .val (.int p4), .val (.int x0), .val (.int x1), .val (.int x2), .val (.ref b1), .val (.ref b5), .val (.int (1 : Int32)), .val (.int (1 : Int32)), .val (.ref b5), .val (.ref b1), .val (.ref b55), .val (.ref b55), .val (.int (1 : Int32)), .val (.ref b1), .val (.ref b1)] [])) _
        refine XS.iconst X68.here hx rfl (hb hby at_290) ?_
        show Steps p.tables e below (T68.setTop (mkF m 291 #[.val (.int p1), .val (.int p2), .val (.int p3), .val (.int p4), .val (.int x0), .val (.int x1), .val (.int x2), .val (.ref b1), .val (.ref b5), .val (.int (1 : Int32)), .val (.int (1 : Int32)), .val (.ref b5), .val (.ref b1), .val (.ref b55), .val (.ref b55), .val (.int (1 : Int32)), .val (.ref b1), .val (.ref b1)] [(.int (1 : Int32))])) _
        refine XS.goto X68.here hx rfl (pc0 := 291) (pc' := 295) rfl (hb hby at_291) (by decide) (by decide) ?_
        show Steps p.tables e below (T68.setTop (mkF m 295 #[.val (.int p1), .val (.int p2), .val (.int p3), .val (.int p4), .val (.int x0), .val (.int x1), .val (.int x2), .val (.ref b1), .val (.ref b5), .val (.int (1 : Int32)), .val (.int (1 : Int32)), .val (.ref b5), .val (.ref b1), .val (.ref b55), .val (.ref b55), .val (.int (1 : Int32)), .val (.ref b1), .val (.ref b1)] [(.int (1 : Int32))])) _
        refine XS.istore X68.here hx rfl (hb hby at_295) rfl (l' := #[.val (.int p1), .val (.int p2), .val (.int p3), .val (.int p4), .val (.int x0), .val (.int x1), .val (.int x2), .val (.ref b1), .val (.ref b5), .val (.int (1 : Int32)), .val (.int (1 : Int32)), .val (.ref b5), .val (.ref b1), .val (.ref b55), .val (.ref b55), .val (.int (1 : Int32)), .val (.ref b1), .val (.ref b1)]) rfl ?_
        show Steps p.tables e below (T68.setTop (mkF m 297 #[.val (.int p1), .val (.int p2), .val (.int p3), .val (.int p4), .val (.int x0), .val (.int x1), .val (.int x2), .val (.ref b1), .val (.ref b5), .val (.int (1 : Int32)), .val (.int (1 : Int32)), .val (.ref b5), .val (.ref b1), .val (.ref b55), .val (.ref b55), .val (.int (1 : Int32)), .val (.ref b1), .val (.ref b1)] [])) _
        refine XS.iload X68.here hx rfl (hb hby at_297) rfl ?_
        show Steps p.tables e below (T68.setTop (mkF m 299 #[.val (.int p1), .val (.int p2), .val (.int p3), .val (.int p4), .val (.int x0), .val (.int x1), .val (.int x2), .val (.ref b1), .val (.ref b5), .val (.int (1 : Int32)), .val (.int (1 : Int32)), .val (.ref b5), .val (.ref b1), .val (.ref b55), .val (.ref b55), .val (.int (1 : Int32)), .val (.ref b1), .val (.ref b1)] [(.int (1 : Int32))])) _
        refine XS.ifNo X68.here hx rfl (hb hby at_299) rfl ((if0 _ _).trans (feq (by decide)).1) ?_
        show Steps p.tables e below (T68.setTop (mkF m 302 #[.val (.int p1), .val (.int p2), .val (.int p3), .val (.int p4), .val (.int x0), .val (.int x1), .val (.int x2), .val (.ref b1), .val (.ref b5), .val (.int (1 : Int32)), .val (.int (1 : Int32)), .val (.ref b5), .val (.ref b1), .val (.ref b55), .val (.ref b55), .val (.int (1 : Int32)), .val (.ref b1), .val (.ref b1)] [])) _
        refine XS.aload X68.here hx rfl (hb hby at_302) rfl rfl ?_
        show Steps p.tables e below (T68.setTop (mkF m 304 #[.val (.int p1), .val (.int p2), .val (.int p3), .val (.int p4), .val (.int x0), .val (.int x1), .val (.int x2), .val (.ref b1), .val (.ref b5), .val (.int (1 : Int32)), .val (.int (1 : Int32)), .val (.ref b5), .val (.ref b1), .val (.ref b55), .val (.ref b55), .val (.int (1 : Int32)), .val (.ref b1), .val (.ref b1)] [(.ref b55)])) _
        exact k
      -- pc 304: com/example/fixity/fixity/engine/AccountRequest.unreadable
      obtain ⟨cq69, kq69, q69a, q69b, q69c⟩ := isOf hZ Kq68 A55
      obtain ⟨_, _, ⟨T69, L69, k69, n69⟩, -, X69, ⟨Lc69, hQ69, l69, y69, z69⟩, st69⟩ := X68.virtualBack hx (y := (⟨"com/example/fixity/fixity/engine/AccountRequest", "unreadable", "()Ljava/util/Optional;"⟩ : MethodName)) (z := (⟨"com/example/fixity/fixity/engine/AccountRequest", "unreadable", "()Ljava/util/Optional;"⟩ : MethodName)) hown (mvT hZ (hw _ (List.mem_of_getElem? (i := 66) rfl))) (mvT hZ (hw _ (List.mem_of_getElem? (i := 67) rfl))) (notFace_of_selects (args := #[]) (mvT hZ (hw _ (List.mem_of_getElem? (i := 69) rfl)))) (mvT hZ (hw _ (List.mem_of_getElem? (i := 69) rfl))) (mvT hZ (hw _ (List.mem_of_getElem? (i := 68) rfl))) (by decide) (backOf (W := 0) (rmG0unreadable l Z a0 hw [] b55 wE T59.heap n0 O Gq58_1 S_E) hZ (hw _ (List.mem_of_getElem? (i := 70) rfl)) (hw _ (List.mem_of_getElem? (i := 4) rfl)) (by decide) (by decide)) q69a q69c (g := (mkF m 304 #[.val (.int p1), .val (.int p2), .val (.int p3), .val (.int p4), .val (.int x0), .val (.int x1), .val (.int x2), .val (.ref b1), .val (.ref b5), .val (.int (1 : Int32)), .val (.int (1 : Int32)), .val (.ref b5), .val (.ref b1), .val (.ref b55), .val (.ref b55), .val (.int (1 : Int32)), .val (.ref b1), .val (.ref b1)] [(.ref b55)])) rfl (by rw [hml]; rfl) (Steps.refl _) (argsL := []) (rest := []) (lenOf pd_5 rfl) rfl (by show 2 * 0 + _ ≤ _; exact Nat.le_of_eq rfl) (hb hby at_304) (fun _ hWm => ⟨rfl, Kq68, (by decide : 8 + 0 ≤ _), (by decide : 83 + 0 ≤ _)⟩)
      dsimp only [Pt.U, Pt.locs, Pt.cells, Pt.slots] at X69 l69 y69 z69 st69 hQ69
      subst l69 y69 z69
      obtain ⟨rfl, Nq69, Kq69⟩ := hQ69
      replace N := Fr.app N Nq69
      refine own_go (B := T69.setTop (mkF m 307 #[.val (.int p1), .val (.int p2), .val (.int p3), .val (.int p4), .val (.int x0), .val (.int x1), .val (.int x2), .val (.ref b1), .val (.ref b5), .val (.int (1 : Int32)), .val (.int (1 : Int32)), .val (.ref b5), .val (.ref b1), .val (.ref b55), .val (.ref b55), .val (.int (1 : Int32)), .val (.ref b1), .val (.ref b1)] [(.ref wE)])) (fun t k => st69.trans k) ?_
      refine own_go (B := T69.setTop (mkF m 308 #[.val (.int p1), .val (.int p2), .val (.int p3), .val (.int p4), .val (.int x0), .val (.int x1), .val (.int x2), .val (.ref b1), .val (.ref b5), .val (.int (1 : Int32)), .val (.int (1 : Int32)), .val (.ref b5), .val (.ref b1), .val (.ref b55), .val (.ref b55), .val (.int (1 : Int32)), .val (.ref b1), .val (.ref b1)] [.null, (.ref wE)])) (fun t k => ?_) ?_
      · show Steps p.tables e below (T69.setTop (mkF m 307 #[.val (.int p1), .val (.int p2), .val (.int p3), .val (.int p4), .val (.int x0), .val (.int x1), .val (.int x2), .val (.ref b1), .val (.ref b5), .val (.int (1 : Int32)), .val (.int (1 : Int32)), .val (.ref b5), .val (.ref b1), .val (.ref b55), .val (.ref b55), .val (.int (1 : Int32)), .val (.ref b1), .val (.ref b1)] [(.ref wE)])) _
        refine XS.aconstNull X69.here hx rfl (hb hby at_307) ?_
        show Steps p.tables e below (T69.setTop (mkF m 308 #[.val (.int p1), .val (.int p2), .val (.int p3), .val (.int p4), .val (.int x0), .val (.int x1), .val (.int x2), .val (.ref b1), .val (.ref b5), .val (.int (1 : Int32)), .val (.int (1 : Int32)), .val (.ref b5), .val (.ref b1), .val (.ref b55), .val (.ref b55), .val (.int (1 : Int32)), .val (.ref b1), .val (.ref b1)] [.null, (.ref wE)])) _
        exact k
      -- pc 308: java/util/Optional.orElse
      obtain ⟨cq70, kq70, q70a, q70b, q70c⟩ := isOf hZ Kq69 (E_E.ext O.2)
      obtain ⟨_, _, ⟨T70, L70, k70, n70⟩, -, X70, ⟨Lc70, hQ70, l70, y70, z70⟩, st70⟩ := X69.virtualBack hx (y := (⟨"java/util/Optional", "orElse", "(Ljava/lang/Object;)Ljava/lang/Object;"⟩ : MethodName)) (z := (⟨"java/util/Optional", "orElse", "(Ljava/lang/Object;)Ljava/lang/Object;"⟩ : MethodName)) hown (mvT hZ (hw _ (List.mem_of_getElem? (i := 52) rfl))) (mvT hZ (hw _ (List.mem_of_getElem? (i := 53) rfl))) (notFace_of_selects (args := #[]) (mvT hZ (hw _ (List.mem_of_getElem? (i := 55) rfl)))) (mvT hZ (hw _ (List.mem_of_getElem? (i := 55) rfl))) (mvT hZ (hw _ (List.mem_of_getElem? (i := 54) rfl))) (by decide) (backOf (W := 0) (rmOE0 l Z a0 hw [] wE T59.heap n0 O (F_E.ext O.2)) hZ (hw _ (List.mem_of_getElem? (i := 56) rfl)) (hw _ (List.mem_of_getElem? (i := 41) rfl)) (by decide) (by decide)) q70a q70c (g := (mkF m 308 #[.val (.int p1), .val (.int p2), .val (.int p3), .val (.int p4), .val (.int x0), .val (.int x1), .val (.int x2), .val (.ref b1), .val (.ref b5), .val (.int (1 : Int32)), .val (.int (1 : Int32)), .val (.ref b5), .val (.ref b1), .val (.ref b55), .val (.ref b55), .val (.int (1 : Int32)), .val (.ref b1), .val (.ref b1)] [.null, (.ref wE)])) rfl (by rw [hml]; rfl) (Steps.refl _) (argsL := [.null]) (rest := []) (lenOf pd_6 rfl) rfl (by show 2 * 0 + _ ≤ _; exact Nat.le_of_eq rfl) (hb hby at_308) (fun _ hWm => ⟨rfl, Kq69, (by decide : 8 + 0 ≤ _), (by decide : 83 + 0 ≤ _)⟩)
      dsimp only [Pt.U, Pt.locs, Pt.cells, Pt.slots] at X70 l70 y70 z70 st70 hQ70
      subst l70 y70 z70
      obtain ⟨rfl, Nq70, Kq70⟩ := hQ70
      replace N := Fr.app N Nq70
      refine own_go (B := T70.setTop (mkF m 311 #[.val (.int p1), .val (.int p2), .val (.int p3), .val (.int p4), .val (.int x0), .val (.int x1), .val (.int x2), .val (.ref b1), .val (.ref b5), .val (.int (1 : Int32)), .val (.int (1 : Int32)), .val (.ref b5), .val (.ref b1), .val (.ref b55), .val (.ref b55), .val (.int (1 : Int32)), .val (.ref b1), .val (.ref b1)] [.null])) (fun t k => st70.trans k) ?_
      refine own_go (B := T70.setTop (mkF m 323 #[.val (.int p1), .val (.int p2), .val (.int p3), .val (.int p4), .val (.int x0), .val (.int x1), .val (.int x2), .val (.ref b1), .val (.ref b5), .val (.int (1 : Int32)), .val (.int (1 : Int32)), .val (.ref b5), .val (.ref b1), .val (.ref b55), .val (.ref b55), .val (.int (1 : Int32)), .val (.ref b1), .val (.ref b1)] [(.int (1 : Int32))])) (fun t k => ?_) ?_
      · show Steps p.tables e below (T70.setTop (mkF m 311 #[.val (.int p1), .val (.int p2), .val (.int p3), .val (.int p4), .val (.int x0), .val (.int x1), .val (.int x2), .val (.ref b1), .val (.ref b5), .val (.int (1 : Int32)), .val (.int (1 : Int32)), .val (.ref b5), .val (.ref b1), .val (.ref b55), .val (.ref b55), .val (.int (1 : Int32)), .val (.ref b1), .val (.ref b1)] [.null])) _
        refine XT.ifnonnullNo X70.here hx rfl (hb hby at_311) rfl ?_
        show Steps p.tables e below (T70.setTop (mkF m 314 #[.val (.int p1), .val (.int p2), .val (.int p3), .val (.int p4), .val (.int x0), .val (.int x1), .val (.int x2), .val (.ref b1), .val (.ref b5), .val (.int (1 : Int32)), .val (.int (1 : Int32)), .val (.ref b5), .val (.ref b1), .val (.ref b55), .val (.ref b55), .val (.int (1 : Int32)), .val (.ref b1), .val (.ref b1)] [])) _
        refine XS.iconst X70.here hx rfl (hb hby at_314) ?_
        show Steps p.tables e below (T70.setTop (mkF m 315 #[.val (.int p1), .val (.int p2), .val (.int p3), .val (.int p4), .val (.int x0), .val (.int x1), .val (.int x2), .val (.ref b1), .val (.ref b5), .val (.int (1 : Int32)), .val (.int (1 : Int32)), .val (.ref b5), .val (.ref b1), .val (.ref b55), .val (.ref b55), .val (.int (1 : Int32)), .val (.ref b1), .val (.ref b1)] [(.int (1 : Int32))])) _
        refine XS.goto X70.here hx rfl (pc0 := 315) (pc' := 319) rfl (hb hby at_315) (by decide) (by decide) ?_
        show Steps p.tables e below (T70.setTop (mkF m 319 #[.val (.int p1), .val (.int p2), .val (.int p3), .val (.int p4), .val (.int x0), .val (.int x1), .val (.int x2), .val (.ref b1), .val (.ref b5), .val (.int (1 : Int32)), .val (.int (1 : Int32)), .val (.ref b5), .val (.ref b1), .val (.ref b55), .val (.ref b55), .val (.int (1 : Int32)), .val (.ref b1), .val (.ref b1)] [(.int (1 : Int32))])) _
        refine XS.istore X70.here hx rfl (hb hby at_319) rfl (l' := #[.val (.int p1), .val (.int p2), .val (.int p3), .val (.int p4), .val (.int x0), .val (.int x1), .val (.int x2), .val (.ref b1), .val (.ref b5), .val (.int (1 : Int32)), .val (.int (1 : Int32)), .val (.ref b5), .val (.ref b1), .val (.ref b55), .val (.ref b55), .val (.int (1 : Int32)), .val (.ref b1), .val (.ref b1)]) rfl ?_
        show Steps p.tables e below (T70.setTop (mkF m 321 #[.val (.int p1), .val (.int p2), .val (.int p3), .val (.int p4), .val (.int x0), .val (.int x1), .val (.int x2), .val (.ref b1), .val (.ref b5), .val (.int (1 : Int32)), .val (.int (1 : Int32)), .val (.ref b5), .val (.ref b1), .val (.ref b55), .val (.ref b55), .val (.int (1 : Int32)), .val (.ref b1), .val (.ref b1)] [])) _
        refine XS.iload X70.here hx rfl (hb hby at_321) rfl ?_
        show Steps p.tables e below (T70.setTop (mkF m 323 #[.val (.int p1), .val (.int p2), .val (.int p3), .val (.int p4), .val (.int x0), .val (.int x1), .val (.int x2), .val (.ref b1), .val (.ref b5), .val (.int (1 : Int32)), .val (.int (1 : Int32)), .val (.ref b5), .val (.ref b1), .val (.ref b55), .val (.ref b55), .val (.int (1 : Int32)), .val (.ref b1), .val (.ref b1)] [(.int (1 : Int32))])) _
        exact k
      obtain ⟨fs, hr, hrun, hended, hEnd⟩ := X70.leaveW hS (by rw [Kq70]; exact hk) (v := some (.int (1 : Int32))) (fun h => by rw [Bd.returns] at h; cases h)
      refine ⟨_, _, retN X70 hx (t := .boolean) Bd.returns (by simp) (hb hby at_323) hr, hfin _ _ ⟨hrun, hended, _, _, rfl, ?_, hEnd.1, hEnd.2.1, hEnd.2.2.1, hEnd.2.2.2.mono (by decide) (by decide)⟩⟩
      show Q0 Z p1 p2 p3 p4 wE h0 n0 _ T70.heap _
      rw [Kq70]
      exact ⟨rfl, N⟩
set_option maxRecDepth 65536 in
set_option maxHeartbeats 40000000 in
theorem comes_1 {Post : Tables → Env → Array Value → State → Outcome → State → Prop} (hpost : ∀ tb e args s v u, (limb_1_1.after args s (.returned v) u = true ∧ limb_1_2.after args s (.returned v) u = true ∧ True) → ReturnedEndW s (.returned v) u (Jvm.fieldLocs frame_1_writes args s ++ Jvm.arrayLocs frame_1_arrays args s ++ Jvm.staticLocs frame_1_statics s) 24 1152 → Post tb e args s (.returned v) u) :
    ArmFor flags0 classFile x code maxLocals ret World_1 tables_1 room_1 Calls_1 rest_1 Pre_1 Post := by
  intro l hfl _ _ p e ha hc hk s m args below hf hA hF happ hP
  obtain ⟨hcalls, hrest, hpre⟩ := hP
  obtain ⟨-, -, -, hnamed, -, -, -, hat⟩ := (Spec.applies_iff hf).mp happ
  obtain ⟨hg, hn⟩ := and_e (Cond.before_iff.mp (show (Jvm.Cond.and given_1 narrow_1).before args s = true from hpre))
  obtain ⟨gc, gr0⟩ := and_e hg
  obtain ⟨gi0, gr1⟩ := and_e gr0
  obtain ⟨gi1, gr2⟩ := and_e gr1
  obtain ⟨gi2, gr3⟩ := and_e gr2
  have gi3 := gr3
  obtain ⟨w0, w1, w2, w3, rfl⟩ : ∃ w0 w1 w2 w3 : Value, args = #[w0, w1, w2, w3] := by
    have hs : args.size = 4 := by simpa [Cond.value, given_1] using gc
    obtain ⟨L⟩ := args
    match L, hs with
    | [w0, w1, w2, w3], _ => exact ⟨w0, w1, w2, w3, rfl⟩
  have hw := fun d (hd : d ∈ tables_1) => atoms_spec (ws := Jvm.Cond.code x code maxLocals ret :: tables_1) hat d (List.mem_cons_of_mem _ hd)
  have hfit : Fit s := fun {y c} hc i hi => by
    obtain ⟨ha, rfl⟩ := Array.getElem?_eq_some_iff.mp hc
    have q := List.all_eq_true.mp ((Array.all_eq_true_iff_forall_mem.mp hF) _ (Array.getElem_mem ha)) i (List.mem_range.mpr hi)
    simpa [Array.getElem?_eq_getElem hi] using q
  obtain ⟨i0, ei0⟩ := is_v gi0
  obtain rfl : w0 = (.int i0) := Option.some.inj ei0
  obtain ⟨i1, ei1⟩ := is_v gi1
  obtain rfl : w1 = (.int i1) := Option.some.inj ei1
  obtain ⟨i2, ei2⟩ := is_v gi2
  obtain rfl : w2 = (.int i2) := Option.some.inj ei2
  obtain ⟨i3, ei3⟩ := is_v gi3
  obtain rfl : w3 = (.int i3) := Option.some.inj ei3
  obtain ⟨hsets, hown0⟩ := atoms_of _ (rest_1_c_eq ▸ (show rest_1_c.before _ s = true from hrest))
  obtain ⟨wE, evE⟩ := exa_v (Cond.before_iff.mp (hsets _ (List.mem_of_getElem? (i := 2) rfl)))
  have S_E := Sta.start evE (Or.inl (hsets _ (List.mem_of_getElem? (i := 1) rfl)))
  have E_E := Exa.start evE (Cond.before_iff.mp (hsets _ (List.mem_of_getElem? (i := 2) rfl)))
  have F_E := Fld.start ((fld_at evE).symm.trans (null_v (Cond.before_iff.mp (hsets _ (List.mem_of_getElem? (i := 3) rfl)))))
  obtain ⟨n, o, h1, h2, h3, _, L, rfl, ⟨rfl, N⟩, hq⟩ := rm0 l s _ hw tables_1 i0 i1 i2 i3 wE s.heap s.heap.size (Old.start s) S_E E_E F_E p e ha hc hk s m _ below hf ((Spec.applies_iff_loose hf).mp happ).1 ⟨rfl, State.Warmed39.refl s, rfl⟩ trivial
  refine ⟨n, _, h1, h2, h3, hpost _ _ _ _ _ _ ⟨Cond.after_iff.mpr rfl, Cond.after_iff.mpr (eq_i res_at (Term.int_eval (1)) rfl), trivial⟩ ⟨hq.1, hq.2.1, hq.2.2.1, (hq.2.2.2.sift fun y hy => Or.inr (N y hy)).mono (by decide) (by decide)⟩⟩
theorem main_1_1 : Claimed_1_1 := comes_1 fun _ _ _ _ _ _ h hF => ⟨h.1, hF⟩
theorem main_1_2 : Claimed_1_2 := comes_1 fun _ _ _ _ _ _ h hF => ⟨h.2.1, hF⟩
end Jvm.Pilot.@@N@@
namespace Jvm.Pilot.@@N@@
open Jvm Jvm.ClassFile Sem Op Lib Jvm.Free Jvm.Stand Jvm.Pilot.@@N@@.Jvm.D
/-! MADE BY PROGRAM (witnessworld.py) out of the Statement's table words and the real class files: 18 classes; the members and pool entries that the words name. The judged class is class 1, her method 1. -/
namespace start1
open Jvm.ClassFile
def u (s : String) : CpInfo := .utf8 (stringToUtf16 s)
/-- a pool by its gaps: so many unusable entries, then the entry; so many at the end -/
def gap : Nat → List CpInfo → List CpInfo
  | 0, r => r
  | n + 1, r => .unusable :: gap n r
def poolList (es : List (Nat × CpInfo)) (last : Nat) : List CpInfo := es.foldr (fun e r => gap e.1 (e.2 :: r)) (gap last [])
def pool (es : List (Nat × CpInfo)) (last : Nat) : Array CpInfo := ⟨poolList es last⟩
def fileOf (pool : Array CpInfo) (this : Nat) (attrs : Array Attribute := #[]) (ms : Array MethodInfo := #[]) (fl : Nat := 33) (sup : Nat := 0) (ifs : Array Nat := #[]) (fds : Array FieldInfo := #[]) : ClassFile where
  minorVersion := 0
  majorVersion := 65
  constantPool := pool
  accessFlags := fl
  thisClass := this
  superClass := sup
  interfaces := ifs
  fields := fds
  methods := ms
  attributes := attrs
def plain (name : String) (sup : Option ClassId) : Class where
  name := name
  kind := .ordinary
  loader := none
  accessFlags := 33
  super := sup
  interfaces := #[]
  cf := none
  fields := #[]
  methods := #[]
  instanceTypes := #[]
  staticTypes := #[]
  resolved := #[]
  callSites := []
  init := .initialized
  statics := none
  mirror := none

def pool0 : Array CpInfo := pool [(5, u "<init>"), (0, u "()V"), (1, .class_ 10), (1, u "java/lang/Object")] 113

def k0c0 : Code := { maxStack := 0, maxLocals := 1, code := object_method_1_code, exceptionTable := #[], attributes := #[] }
def k0m0 : Method := { name := "<init>", desc := "()V", sig := { parameters := [], returnType := none }, accessFlags := 1, code := some k0c0 }
/-- java/lang/Object -/
def k0 : Class := { plain "java/lang/Object" none with
  accessFlags := 33
  interfaces := #[]
  cf := some (fileOf pool0 8 #[] #[{ accessFlags := 1, nameIndex := 5, descriptorIndex := 6, attributes := #[] }] 33 0 #[] #[])
  fields := #[]
  methods := #[k0m0]
  instanceTypes := #[]
  staticTypes := #[]
  resolved := Array.replicate 124 none
  statics := none }

def pool1 : Array CpInfo := pool [(2, .class_ 4), (0, .nameAndType 5 6), (0, u "java/lang/Object"), (0, u "<init>"), (0, u "()V"), (0, .integer 65535), (0, .class_ 9), (0, u "com/example/fixity/fixity/engine/AccountRequest"), (0, .methodref 8 3), (0, .methodref 8 12), (0, .nameAndType 13 14), (0, u "password"), (0, u "([C)Lcom/example/fixity/fixity/engine/AccountRequest;"), (0, .methodref 8 16), (0, .nameAndType 13 17), (0, u "()Ljava/util/Optional;"), (0, .methodref 19 20), (0, .class_ 21), (0, .nameAndType 22 23), (0, u "java/util/Optional"), (0, u "orElse"), (0, u "(Ljava/lang/Object;)Ljava/lang/Object;"), (0, .class_ 25), (0, u "[C"), (0, .methodref 8 27), (0, .nameAndType 28 17), (0, u "role"), (0, .methodref 8 30), (0, .nameAndType 31 17), (0, u "unreadable"), (0, .class_ 33), (0, u "com/example/fixity/fixity/engine/AccountRequestPasswordPinLaw"), (2, u "law"), (0, u "(IIII)Z")] 3

def k1m0 : Method := { name := "<init>", desc := "()V", sig := { parameters := [], returnType := none }, accessFlags := 1, code := none }
def k1c1 : Code := { maxStack := 3, maxLocals := 18, code := code, exceptionTable := #[], attributes := #[] }
def k1m1 : Method := { name := "law", desc := "(IIII)Z", sig := { parameters := [.int, .int, .int, .int], returnType := some .boolean }, accessFlags := 9, code := some k1c1 }
/-- com/example/fixity/fixity/engine/AccountRequestPasswordPinLaw -/
def k1 : Class := { plain "com/example/fixity/fixity/engine/AccountRequestPasswordPinLaw" (some 0) with
  accessFlags := 49
  interfaces := #[]
  cf := some (fileOf pool1 32 #[] #[{ accessFlags := 1, nameIndex := 5, descriptorIndex := 6, attributes := #[] }, { accessFlags := 9, nameIndex := 36, descriptorIndex := 37, attributes := #[] }] 49 2 #[] #[])
  fields := #[]
  methods := #[k1m0, k1m1]
  instanceTypes := #[]
  staticTypes := #[]
  resolved := Array.replicate 41 none
  statics := none }

def pool2 : Array CpInfo := pool [(1, .methodref 2 3), (0, .class_ 4), (0, .nameAndType 5 6), (0, u "java/lang/Object"), (0, u "<init>"), (0, u "()V"), (0, .fieldref 8 9), (0, .class_ 10), (0, .nameAndType 11 12), (0, u "com/example/fixity/fixity/engine/AccountRequest"), (0, u "unreadable"), (0, u "Ljava/lang/String;"), (2, .methodref 16 17), (0, .class_ 18), (0, .nameAndType 19 20), (0, u "java/util/Objects"), (0, u "requireNonNull"), (0, u "(Ljava/lang/Object;Ljava/lang/String;)Ljava/lang/Object;"), (7, .fieldref 8 29), (0, .nameAndType 30 12), (0, u "role"), (8, u "workflowRoles"), (0, u "Ljava/util/List;"), (8, u "disabled"), (0, u "Ljava/lang/Boolean;"), (2, u "auditRead"), (2, u "locked"), (0, .string 58), (0, u "password"), (0, .class_ 60), (0, u "[C"), (0, .fieldref 8 62), (0, .nameAndType 58 60), (0, .methodref 64 65), (0, .class_ 66), (0, .nameAndType 67 68), (0, u "java/util/Optional"), (0, u "ofNullable"), (0, u "(Ljava/lang/Object;)Ljava/util/Optional;"), (8, u "([C)Lcom/example/fixity/fixity/engine/AccountRequest;"), (0, u "()Ljava/util/Optional;")] 6

def k2c0 : Code := { maxStack := 2, maxLocals := 1, code := prog_2_method_1_code, exceptionTable := #[], attributes := #[] }
def k2m0 : Method := { name := "<init>", desc := "()V", sig := { parameters := [], returnType := none }, accessFlags := 1, code := some k2c0 }
def k2c1 : Code := { maxStack := 3, maxLocals := 2, code := prog_2_method_9_code, exceptionTable := #[], attributes := #[] }
def k2m1 : Method := { name := "password", desc := "([C)Lcom/example/fixity/fixity/engine/AccountRequest;", sig := { parameters := [(.array .char)], returnType := some (.object "com/example/fixity/fixity/engine/AccountRequest") }, accessFlags := 1, code := some k2c1 }
def k2c2 : Code := { maxStack := 1, maxLocals := 1, code := prog_2_method_10_code, exceptionTable := #[], attributes := #[] }
def k2m2 : Method := { name := "unreadable", desc := "()Ljava/util/Optional;", sig := { parameters := [], returnType := some (.object "java/util/Optional") }, accessFlags := 0, code := some k2c2 }
def k2c3 : Code := { maxStack := 1, maxLocals := 1, code := prog_2_method_11_code, exceptionTable := #[], attributes := #[] }
def k2m3 : Method := { name := "role", desc := "()Ljava/util/Optional;", sig := { parameters := [], returnType := some (.object "java/util/Optional") }, accessFlags := 0, code := some k2c3 }
def k2c4 : Code := { maxStack := 1, maxLocals := 1, code := prog_2_method_16_code, exceptionTable := #[], attributes := #[] }
def k2m4 : Method := { name := "password", desc := "()Ljava/util/Optional;", sig := { parameters := [], returnType := some (.object "java/util/Optional") }, accessFlags := 0, code := some k2c4 }
/-- com/example/fixity/fixity/engine/AccountRequest -/
def k2 : Class := { plain "com/example/fixity/fixity/engine/AccountRequest" (some 0) with
  accessFlags := 49
  interfaces := #[]
  cf := some (fileOf pool2 8 #[] #[{ accessFlags := 1, nameIndex := 5, descriptorIndex := 6, attributes := #[] }, { accessFlags := 1, nameIndex := 58, descriptorIndex := 77, attributes := #[] }, { accessFlags := 0, nameIndex := 11, descriptorIndex := 78, attributes := #[] }, { accessFlags := 0, nameIndex := 30, descriptorIndex := 78, attributes := #[] }, { accessFlags := 0, nameIndex := 58, descriptorIndex := 78, attributes := #[] }] 49 2 #[] #[{ accessFlags := 18, nameIndex := 11, descriptorIndex := 12, attributes := #[] }, { accessFlags := 2, nameIndex := 30, descriptorIndex := 12, attributes := #[] }, { accessFlags := 2, nameIndex := 39, descriptorIndex := 40, attributes := #[] }, { accessFlags := 2, nameIndex := 49, descriptorIndex := 50, attributes := #[] }, { accessFlags := 2, nameIndex := 53, descriptorIndex := 50, attributes := #[] }, { accessFlags := 2, nameIndex := 56, descriptorIndex := 50, attributes := #[] }, { accessFlags := 2, nameIndex := 58, descriptorIndex := 60, attributes := #[] }])
  fields := #[{ name := "unreadable", type := (.object "java/lang/String"), accessFlags := 18, slot := 0, constantValue := 0 }, { name := "role", type := (.object "java/lang/String"), accessFlags := 2, slot := 1, constantValue := 0 }, { name := "workflowRoles", type := (.object "java/util/List"), accessFlags := 2, slot := 2, constantValue := 0 }, { name := "disabled", type := (.object "java/lang/Boolean"), accessFlags := 2, slot := 3, constantValue := 0 }, { name := "auditRead", type := (.object "java/lang/Boolean"), accessFlags := 2, slot := 4, constantValue := 0 }, { name := "locked", type := (.object "java/lang/Boolean"), accessFlags := 2, slot := 5, constantValue := 0 }, { name := "password", type := (.array .char), accessFlags := 2, slot := 6, constantValue := 0 }]
  methods := #[k2m0, k2m1, k2m2, k2m3, k2m4]
  instanceTypes := #[(.object "java/lang/String"), (.object "java/lang/String"), (.object "java/util/List"), (.object "java/lang/Boolean"), (.object "java/lang/Boolean"), (.object "java/lang/Boolean"), (.array .char)]
  staticTypes := #[]
  resolved := Array.replicate 85 none
  statics := none }

def pool3 : Array CpInfo := pool [(1, .class_ 2), (0, u "java/io/Serializable"), (0, .class_ 4), (0, u "java/lang/Object")] 2

/-- java/io/Serializable -/
def k3 : Class := { plain "java/io/Serializable" (some 0) with
  accessFlags := 1537
  interfaces := #[]
  cf := some (fileOf pool3 1 #[] #[] 1537 3 #[] #[])
  fields := #[]
  methods := #[]
  instanceTypes := #[]
  staticTypes := #[]
  resolved := Array.replicate 7 none
  statics := none }

def pool4 : Array CpInfo := pool [(1, .class_ 2), (0, u "java/lang/Comparable"), (0, .class_ 4), (0, u "java/lang/Object")] 7

/-- java/lang/Comparable -/
def k4 : Class := { plain "java/lang/Comparable" (some 0) with
  accessFlags := 1537
  interfaces := #[]
  cf := some (fileOf pool4 1 #[] #[] 1537 3 #[] #[])
  fields := #[]
  methods := #[]
  instanceTypes := #[]
  staticTypes := #[]
  resolved := Array.replicate 12 none
  statics := none }

def pool5 : Array CpInfo := pool [(2, .class_ 4), (1, u "java/lang/CharSequence"), (42, .class_ 48), (0, u "java/lang/CharSequence$1CodePointIterator"), (10, .class_ 60), (0, u "java/lang/CharSequence$1CharIterator"), (5, .class_ 67), (0, u "java/lang/Object")] 63

/-- java/lang/CharSequence -/
def k5 : Class := { plain "java/lang/CharSequence" (some 0) with
  accessFlags := 1537
  interfaces := #[]
  cf := some (fileOf pool5 2 #[.nestMembers #[47, 59]] #[] 1537 66 #[] #[])
  fields := #[]
  methods := #[]
  instanceTypes := #[]
  staticTypes := #[]
  resolved := Array.replicate 131 none
  statics := none }

def pool6 : Array CpInfo := pool [(1, .class_ 2), (0, u "java/lang/constant/Constable"), (0, .class_ 4), (0, u "java/lang/Object")] 6

/-- java/lang/constant/Constable -/
def k6 : Class := { plain "java/lang/constant/Constable" (some 0) with
  accessFlags := 1537
  interfaces := #[]
  cf := some (fileOf pool6 1 #[] #[] 1537 3 #[] #[])
  fields := #[]
  methods := #[]
  instanceTypes := #[]
  staticTypes := #[]
  resolved := Array.replicate 11 none
  statics := none }

def pool7 : Array CpInfo := pool [(1, .class_ 2), (0, u "java/lang/constant/ConstantDesc"), (0, .class_ 4), (0, u "java/lang/Object")] 32

/-- java/lang/constant/ConstantDesc -/
def k7 : Class := { plain "java/lang/constant/ConstantDesc" (some 0) with
  accessFlags := 1537
  interfaces := #[]
  cf := some (fileOf pool7 1 #[] #[] 1537 3 #[] #[])
  fields := #[]
  methods := #[]
  instanceTypes := #[]
  staticTypes := #[]
  resolved := Array.replicate 37 none
  statics := none }

def pool8 : Array CpInfo := pool [(2, .class_ 4), (1, u "java/lang/Object"), (0, u "<init>"), (0, u "()V"), (3, .class_ 12), (1, u "java/lang/String"), (0, u "value"), (0, u "[B"), (2, u "coder"), (0, u "B"), (2, u "hash"), (0, u "I"), (2, u "hashIsZero"), (0, u "Z"), (13, u "COMPACT_STRINGS"), (534, .class_ 576), (0, u "java/lang/CharSequence"), (22, u "CASE_INSENSITIVE_ORDER"), (0, u "Ljava/util/Comparator;"), (500, u "serialPersistentFields"), (0, u "[Ljava/io/ObjectStreamField;"), (0, .class_ 1104), (0, u "java/lang/String$CaseInsensitiveComparator"), (1, .class_ 1107), (0, u "java/io/Serializable"), (0, .class_ 1109), (0, u "java/lang/Comparable"), (0, .class_ 1111), (0, u "java/lang/constant/Constable"), (0, .class_ 1113), (0, u "java/lang/constant/ConstantDesc"), (2, u "serialVersionUID"), (0, u "J"), (3, u "REPL"), (0, u "C"), (2, u "LATIN1"), (1, u "UTF16")] 323

def k8m0 : Method := { name := "<init>", desc := "()V", sig := { parameters := [], returnType := none }, accessFlags := 1, code := none }
/-- java/lang/String -/
def k8 : Class := { plain "java/lang/String" (some 0) with
  accessFlags := 49
  interfaces := #[3, 4, 5, 6, 7]
  cf := some (fileOf pool8 10 #[.nestMembers #[1103]] #[{ accessFlags := 1, nameIndex := 5, descriptorIndex := 6, attributes := #[] }] 49 2 #[1106, 1108, 575, 1110, 1112] #[{ accessFlags := 18, nameIndex := 13, descriptorIndex := 14, attributes := #[] }, { accessFlags := 18, nameIndex := 17, descriptorIndex := 18, attributes := #[] }, { accessFlags := 2, nameIndex := 21, descriptorIndex := 22, attributes := #[] }, { accessFlags := 2, nameIndex := 25, descriptorIndex := 26, attributes := #[] }, { accessFlags := 26, nameIndex := 1116, descriptorIndex := 1117, attributes := #[] }, { accessFlags := 24, nameIndex := 40, descriptorIndex := 26, attributes := #[] }, { accessFlags := 26, nameIndex := 1101, descriptorIndex := 1102, attributes := #[] }, { accessFlags := 26, nameIndex := 1121, descriptorIndex := 1122, attributes := #[] }, { accessFlags := 25, nameIndex := 599, descriptorIndex := 600, attributes := #[] }, { accessFlags := 24, nameIndex := 1125, descriptorIndex := 18, attributes := #[] }, { accessFlags := 24, nameIndex := 1127, descriptorIndex := 18, attributes := #[] }])
  fields := #[{ name := "value", type := (.array .byte), accessFlags := 18, slot := 0, constantValue := 0 }, { name := "coder", type := .byte, accessFlags := 18, slot := 1, constantValue := 0 }, { name := "hash", type := .int, accessFlags := 2, slot := 2, constantValue := 0 }, { name := "hashIsZero", type := .boolean, accessFlags := 2, slot := 3, constantValue := 0 }, { name := "serialVersionUID", type := .long, accessFlags := 26, slot := 0, constantValue := 0 }, { name := "COMPACT_STRINGS", type := .boolean, accessFlags := 24, slot := 1, constantValue := 0 }, { name := "serialPersistentFields", type := (.array (.object "java/io/ObjectStreamField")), accessFlags := 26, slot := 2, constantValue := 0 }, { name := "REPL", type := .char, accessFlags := 26, slot := 3, constantValue := 0 }, { name := "CASE_INSENSITIVE_ORDER", type := (.object "java/util/Comparator"), accessFlags := 25, slot := 4, constantValue := 0 }, { name := "LATIN1", type := .byte, accessFlags := 24, slot := 5, constantValue := 0 }, { name := "UTF16", type := .byte, accessFlags := 24, slot := 6, constantValue := 0 }]
  methods := #[k8m0]
  instanceTypes := #[(.array .byte), .byte, .int, .boolean]
  staticTypes := #[.long, .boolean, (.array (.object "java/io/ObjectStreamField")), .char, (.object "java/util/Comparator"), .byte, .byte]
  resolved := Array.replicate 1451 none
  statics := none }

def pool9 : Array CpInfo := pool [(2, .class_ 4), (1, u "java/lang/Object"), (0, u "<init>"), (0, u "()V"), (35, .class_ 44), (1, u "java/util/Objects"), (0, u "requireNonNull"), (48, u "(Ljava/lang/Object;Ljava/lang/String;)Ljava/lang/Object;")] 89

def k9m0 : Method := { name := "<init>", desc := "()V", sig := { parameters := [], returnType := none }, accessFlags := 2, code := none }
def k9c1 : Code := { maxStack := 3, maxLocals := 2, code := jdk_31_method_11_code, exceptionTable := #[], attributes := #[] }
def k9m1 : Method := { name := "requireNonNull", desc := "(Ljava/lang/Object;Ljava/lang/String;)Ljava/lang/Object;", sig := { parameters := [(.object "java/lang/Object"), (.object "java/lang/String")], returnType := some (.object "java/lang/Object") }, accessFlags := 9, code := some k9c1 }
/-- java/util/Objects -/
def k9 : Class := { plain "java/util/Objects" (some 0) with
  accessFlags := 49
  interfaces := #[]
  cf := some (fileOf pool9 42 #[] #[{ accessFlags := 2, nameIndex := 5, descriptorIndex := 6, attributes := #[] }, { accessFlags := 9, nameIndex := 45, descriptorIndex := 94, attributes := #[] }] 49 2 #[] #[])
  fields := #[]
  methods := #[k9m0, k9m1]
  instanceTypes := #[]
  staticTypes := #[]
  resolved := Array.replicate 184 none
  statics := none }

def pool10 : Array CpInfo := pool [(1, .fieldref 2 3), (0, .class_ 4), (0, .nameAndType 5 6), (0, u "java/util/Optional"), (0, u "EMPTY"), (0, u "Ljava/util/Optional;"), (0, .methodref 8 9), (0, .class_ 10), (0, .nameAndType 11 12), (0, u "java/lang/Object"), (0, u "<init>"), (0, u "()V"), (0, .fieldref 2 14), (0, .nameAndType 15 16), (0, u "value"), (0, u "Ljava/lang/Object;"), (5, u "(Ljava/lang/Object;)Ljava/lang/Object;"), (0, .methodref 2 24), (0, .nameAndType 11 25), (0, u "(Ljava/lang/Object;)V"), (38, u "ofNullable"), (0, u "(Ljava/lang/Object;)Ljava/util/Optional;"), (99, u "orElse")] 21

def k10c0 : Code := { maxStack := 2, maxLocals := 2, code := jdk_32_method_2_code, exceptionTable := #[], attributes := #[] }
def k10m0 : Method := { name := "<init>", desc := "(Ljava/lang/Object;)V", sig := { parameters := [(.object "java/lang/Object")], returnType := none }, accessFlags := 2, code := some k10c0 }
def k10c1 : Code := { maxStack := 3, maxLocals := 1, code := jdk_32_method_4_code, exceptionTable := #[], attributes := #[] }
def k10m1 : Method := { name := "ofNullable", desc := "(Ljava/lang/Object;)Ljava/util/Optional;", sig := { parameters := [(.object "java/lang/Object")], returnType := some (.object "java/util/Optional") }, accessFlags := 9, code := some k10c1 }
def k10c2 : Code := { maxStack := 1, maxLocals := 2, code := jdk_32_method_15_code, exceptionTable := #[], attributes := #[] }
def k10m2 : Method := { name := "orElse", desc := "(Ljava/lang/Object;)Ljava/lang/Object;", sig := { parameters := [(.object "java/lang/Object")], returnType := some (.object "java/lang/Object") }, accessFlags := 1, code := some k10c2 }
/-- java/util/Optional -/
def k10 : Class := { plain "java/util/Optional" (some 0) with
  accessFlags := 49
  interfaces := #[]
  cf := some (fileOf pool10 2 #[] #[{ accessFlags := 2, nameIndex := 11, descriptorIndex := 25, attributes := #[] }, { accessFlags := 9, nameIndex := 64, descriptorIndex := 65, attributes := #[] }, { accessFlags := 1, nameIndex := 165, descriptorIndex := 22, attributes := #[] }] 49 8 #[] #[{ accessFlags := 26, nameIndex := 5, descriptorIndex := 6, attributes := #[] }, { accessFlags := 18, nameIndex := 15, descriptorIndex := 16, attributes := #[] }])
  fields := #[{ name := "EMPTY", type := (.object "java/util/Optional"), accessFlags := 26, slot := 0, constantValue := 0 }, { name := "value", type := (.object "java/lang/Object"), accessFlags := 18, slot := 0, constantValue := 0 }]
  methods := #[k10m0, k10m1, k10m2]
  instanceTypes := #[(.object "java/lang/Object")]
  staticTypes := #[(.object "java/util/Optional")]
  resolved := Array.replicate 187 none
  statics := some 0 }

def pool11 : Array CpInfo := pool [(1, u "java/lang/Cloneable"), (0, .class_ 1), (0, u "java/lang/Object"), (0, .class_ 3)] 3

/-- java/lang/Cloneable -/
def k11 : Class := { plain "java/lang/Cloneable" (some 0) with
  accessFlags := 1537
  interfaces := #[]
  cf := some (fileOf pool11 2 #[] #[] 1537 4 #[] #[])
  fields := #[]
  methods := #[]
  instanceTypes := #[]
  staticTypes := #[]
  resolved := Array.replicate 8 none
  statics := none }

/-- the primitive byte -/
def k12 : Class := { plain "byte" none with kind := .primitive 'B', accessFlags := 0x411 }
/-- [B -/
def k13 : Class := { plain "[B" (some 0) with kind := .array 12 .byte, interfaces := #[11, 3], accessFlags := 1041 }

/-- the primitive char -/
def k14 : Class := { plain "char" none with kind := .primitive 'C', accessFlags := 0x411 }
/-- [C -/
def k15 : Class := { plain "[C" (some 0) with kind := .array 14 .char, interfaces := #[11, 3], accessFlags := 1041 }

/-- the primitive int -/
def k16 : Class := { plain "int" none with kind := .primitive 'I', accessFlags := 0x411 }
/-- [I -/
def k17 : Class := { plain "[I" (some 0) with kind := .array 16 .int, interfaces := #[11, 3], accessFlags := 1041 }

def heap : Heap := #[{ cls := 10, slots := #[.ref 1], vm := .statics 10 },
  { cls := 10, slots := #[.null], vm := .none }]
def classes : Array Class := #[k0, k1, k2, k3, k4, k5, k6, k7, k8, k9, k10, k11, k12, k13, k14, k15, k16, k17]
def interned : List (Array UInt16 × Addr) := []
def slotsUsed : Nat := 2
def theMethod : MethodId := ⟨1, 1⟩
def args0 : Array Value := #[.int 5, .int 2, .int 1, .int 66]
def aboutOver (below : List Frame) : State where
  vm := { classes := classes, interned := interned.toArray }
  heap := heap
  slotsUsed := slotsUsed
  threads := #[{ frames := .invoking theMethod args0 :: below }]
def below0 : List Frame := [.native { method := ⟨0, 0⟩, args := #[] }]
def about1 : State := aboutOver below0
def p0 : Program := .bare "" "" ""
def e0 : Env := launch0.env 0 0 0
theorem w_frames : about1.frames = Frame.invoking theMethod args0 :: below0 := rfl
set_option maxRecDepth 65536 in
theorem w_args : argsFit about1.vm theMethod args0 = true := by decide +kernel
set_option maxRecDepth 65536 in
theorem w_heap : heapFits about1 = true := by decide +kernel
set_option maxRecDepth 65536 in
theorem w_runnable : about1.curStatus? = some .runnable := by decide +kernel
set_option maxRecDepth 65536 in
theorem w_alone : about1.alone = true := by decide +kernel
set_option maxRecDepth 65536 in
theorem w_named : about1.methodNamed? x = some theMethod := by decide +kernel
set_option maxRecDepth 65536 in
theorem w_hears : about1.hears theMethod below0 = true := by decide +kernel
set_option maxRecDepth 65536 in
theorem w_ripe : about1.ripe theMethod args0 below0 = true := by decide +kernel
theorem w_running : about1.status = .running := rfl
set_option maxRecDepth 65536 in
theorem w_room : about1.hasRoom e0.platform room_1 = true :=
  launch0.hasRoom_least _ room_1 (by decide +kernel) (by decide +kernel) (by decide +kernel) (by decide +kernel) (by decide +kernel) (by decide +kernel)
theorem allAtoms_all (ts : List Jvm.Cond) (a : Array Jvm.Value) (st : Jvm.State) : (allAtoms ts).before a st = ts.all (fun c => c.before a st) := by
  induction ts with
  | nil => rfl
  | cons c t ih =>
    show (Jvm.Cond.and c (allAtoms t)).before a st = _
    rw [Jvm.Cond.before_and, ih, List.all_cons]
def words1 : List Jvm.Cond := Jvm.Cond.code x code maxLocals ret :: tables_1
/-- a 'code' word, met by the world's own term for the bytes: nothing is compared byte by byte -/
theorem code_word {y : MethodName} {bytes : ByteArray} {mx : Nat} {rt : Option FieldType} {a : Array Value} {s : State} {m : MethodId} {meth : Method} {c : Code} (h1 : s.methodNamed? y = some m) (h2 : s.vm.method? m = some meth) (h3 : meth.code = some c) (h4 : c.code = bytes)
    (h5 : (c.maxLocals == mx && c.exceptionTable.isEmpty && decide (c.maxStack ≤ mostOperands) && decide (meth.sig.returnType = rt) && !meth.locks && decide (parseMethodDescriptor y.desc = some meth.sig)) = true) : (Jvm.Cond.code y bytes mx rt).before a s = true := by
  simp only [Bool.and_eq_true, beq_iff_eq, Bool.not_eq_true', decide_eq_true_eq] at h5
  obtain ⟨⟨⟨⟨⟨g1, g2⟩, g3⟩, g4⟩, g5⟩, g6⟩ := h5
  simp [Cond.before, Cond.holds, Cond.value, h1, h2, h3, h4, g1, g2, g3, g4, g5, g6]
def isCode : Jvm.Cond → Bool
  | .code _ _ _ _ => true
  | _ => false
theorem all_split {L : List Jvm.Cond} {P : Jvm.Cond → Bool} (h1 : L.all (fun c => isCode c || P c) = true) (h2 : ∀ c ∈ L.filter isCode, P c = true) : L.all P = true := by
  refine List.all_eq_true.mpr fun c hc => ?_
  have h := List.all_eq_true.mp h1 c hc
  rcases Bool.eq_false_or_eq_true (isCode c) with hi | hi
  · exact h2 c (List.mem_filter.mpr ⟨hc, hi⟩)
  · simpa [hi] using h
set_option maxRecDepth 65536 in
theorem w_c0 : (Jvm.Cond.code x code maxLocals ret).before args0 about1 = true := code_word (m := ⟨1, 1⟩) (meth := k1m1) (c := k1c1) (by decide +kernel) rfl rfl rfl (by decide +kernel)
set_option maxRecDepth 65536 in
theorem w_c1 : (Jvm.Cond.code ({ cls := "com/example/fixity/fixity/engine/AccountRequest", name := "<init>", desc := "()V" } : Jvm.MethodName) prog_2_method_1_code (1 : Nat) (Option.none : Option Jvm.ClassFile.FieldType)).before args0 about1 = true := code_word (m := ⟨2, 0⟩) (meth := k2m0) (c := k2c0) (by decide +kernel) rfl rfl rfl (by decide +kernel)
set_option maxRecDepth 65536 in
theorem w_c2 : (Jvm.Cond.code ({ cls := "java/lang/Object", name := "<init>", desc := "()V" } : Jvm.MethodName) object_method_1_code (1 : Nat) (Option.none : Option Jvm.ClassFile.FieldType)).before args0 about1 = true := code_word (m := ⟨0, 0⟩) (meth := k0m0) (c := k0c0) (by decide +kernel) rfl rfl rfl (by decide +kernel)
set_option maxRecDepth 65536 in
theorem w_c3 : (Jvm.Cond.code ({ cls := "com/example/fixity/fixity/engine/AccountRequest", name := "password", desc := "([C)Lcom/example/fixity/fixity/engine/AccountRequest;" } : Jvm.MethodName) prog_2_method_9_code (2 : Nat) (Option.some (Jvm.ClassFile.FieldType.object "com/example/fixity/fixity/engine/AccountRequest"))).before args0 about1 = true := code_word (m := ⟨2, 1⟩) (meth := k2m1) (c := k2c1) (by decide +kernel) rfl rfl rfl (by decide +kernel)
set_option maxRecDepth 65536 in
theorem w_c4 : (Jvm.Cond.code ({ cls := "java/util/Objects", name := "requireNonNull", desc := "(Ljava/lang/Object;Ljava/lang/String;)Ljava/lang/Object;" } : Jvm.MethodName) jdk_31_method_11_code (2 : Nat) (Option.some (Jvm.ClassFile.FieldType.object "java/lang/Object"))).before args0 about1 = true := code_word (m := ⟨9, 1⟩) (meth := k9m1) (c := k9c1) (by decide +kernel) rfl rfl rfl (by decide +kernel)
set_option maxRecDepth 65536 in
theorem w_c5 : (Jvm.Cond.code ({ cls := "com/example/fixity/fixity/engine/AccountRequest", name := "password", desc := "()Ljava/util/Optional;" } : Jvm.MethodName) prog_2_method_16_code (1 : Nat) (Option.some (Jvm.ClassFile.FieldType.object "java/util/Optional"))).before args0 about1 = true := code_word (m := ⟨2, 4⟩) (meth := k2m4) (c := k2c4) (by decide +kernel) rfl rfl rfl (by decide +kernel)
set_option maxRecDepth 65536 in
theorem w_c6 : (Jvm.Cond.code ({ cls := "java/util/Optional", name := "ofNullable", desc := "(Ljava/lang/Object;)Ljava/util/Optional;" } : Jvm.MethodName) jdk_32_method_4_code (1 : Nat) (Option.some (Jvm.ClassFile.FieldType.object "java/util/Optional"))).before args0 about1 = true := code_word (m := ⟨10, 1⟩) (meth := k10m1) (c := k10c1) (by decide +kernel) rfl rfl rfl (by decide +kernel)
set_option maxRecDepth 65536 in
theorem w_c7 : (Jvm.Cond.code ({ cls := "java/util/Optional", name := "<init>", desc := "(Ljava/lang/Object;)V" } : Jvm.MethodName) jdk_32_method_2_code (2 : Nat) (Option.none : Option Jvm.ClassFile.FieldType)).before args0 about1 = true := code_word (m := ⟨10, 0⟩) (meth := k10m0) (c := k10c0) (by decide +kernel) rfl rfl rfl (by decide +kernel)
set_option maxRecDepth 65536 in
theorem w_c8 : (Jvm.Cond.code ({ cls := "java/util/Optional", name := "orElse", desc := "(Ljava/lang/Object;)Ljava/lang/Object;" } : Jvm.MethodName) jdk_32_method_15_code (2 : Nat) (Option.some (Jvm.ClassFile.FieldType.object "java/lang/Object"))).before args0 about1 = true := code_word (m := ⟨10, 2⟩) (meth := k10m2) (c := k10c2) (by decide +kernel) rfl rfl rfl (by decide +kernel)
set_option maxRecDepth 65536 in
theorem w_c9 : (Jvm.Cond.code ({ cls := "com/example/fixity/fixity/engine/AccountRequest", name := "role", desc := "()Ljava/util/Optional;" } : Jvm.MethodName) prog_2_method_11_code (1 : Nat) (Option.some (Jvm.ClassFile.FieldType.object "java/util/Optional"))).before args0 about1 = true := code_word (m := ⟨2, 3⟩) (meth := k2m3) (c := k2c3) (by decide +kernel) rfl rfl rfl (by decide +kernel)
set_option maxRecDepth 65536 in
theorem w_c10 : (Jvm.Cond.code ({ cls := "com/example/fixity/fixity/engine/AccountRequest", name := "unreadable", desc := "()Ljava/util/Optional;" } : Jvm.MethodName) prog_2_method_10_code (1 : Nat) (Option.some (Jvm.ClassFile.FieldType.object "java/util/Optional"))).before args0 about1 = true := code_word (m := ⟨2, 2⟩) (meth := k2m2) (c := k2c2) (by decide +kernel) rfl rfl rfl (by decide +kernel)
def codes1 : List Jvm.Cond := [Jvm.Cond.code x code maxLocals ret, Jvm.Cond.code ({ cls := "com/example/fixity/fixity/engine/AccountRequest", name := "<init>", desc := "()V" } : Jvm.MethodName) prog_2_method_1_code (1 : Nat) (Option.none : Option Jvm.ClassFile.FieldType), Jvm.Cond.code ({ cls := "java/lang/Object", name := "<init>", desc := "()V" } : Jvm.MethodName) object_method_1_code (1 : Nat) (Option.none : Option Jvm.ClassFile.FieldType), Jvm.Cond.code ({ cls := "com/example/fixity/fixity/engine/AccountRequest", name := "password", desc := "([C)Lcom/example/fixity/fixity/engine/AccountRequest;" } : Jvm.MethodName) prog_2_method_9_code (2 : Nat) (Option.some (Jvm.ClassFile.FieldType.object "com/example/fixity/fixity/engine/AccountRequest")), Jvm.Cond.code ({ cls := "java/util/Objects", name := "requireNonNull", desc := "(Ljava/lang/Object;Ljava/lang/String;)Ljava/lang/Object;" } : Jvm.MethodName) jdk_31_method_11_code (2 : Nat) (Option.some (Jvm.ClassFile.FieldType.object "java/lang/Object")), Jvm.Cond.code ({ cls := "com/example/fixity/fixity/engine/AccountRequest", name := "password", desc := "()Ljava/util/Optional;" } : Jvm.MethodName) prog_2_method_16_code (1 : Nat) (Option.some (Jvm.ClassFile.FieldType.object "java/util/Optional")), Jvm.Cond.code ({ cls := "java/util/Optional", name := "ofNullable", desc := "(Ljava/lang/Object;)Ljava/util/Optional;" } : Jvm.MethodName) jdk_32_method_4_code (1 : Nat) (Option.some (Jvm.ClassFile.FieldType.object "java/util/Optional")), Jvm.Cond.code ({ cls := "java/util/Optional", name := "<init>", desc := "(Ljava/lang/Object;)V" } : Jvm.MethodName) jdk_32_method_2_code (2 : Nat) (Option.none : Option Jvm.ClassFile.FieldType), Jvm.Cond.code ({ cls := "java/util/Optional", name := "orElse", desc := "(Ljava/lang/Object;)Ljava/lang/Object;" } : Jvm.MethodName) jdk_32_method_15_code (2 : Nat) (Option.some (Jvm.ClassFile.FieldType.object "java/lang/Object")), Jvm.Cond.code ({ cls := "com/example/fixity/fixity/engine/AccountRequest", name := "role", desc := "()Ljava/util/Optional;" } : Jvm.MethodName) prog_2_method_11_code (1 : Nat) (Option.some (Jvm.ClassFile.FieldType.object "java/util/Optional")), Jvm.Cond.code ({ cls := "com/example/fixity/fixity/engine/AccountRequest", name := "unreadable", desc := "()Ljava/util/Optional;" } : Jvm.MethodName) prog_2_method_10_code (1 : Nat) (Option.some (Jvm.ClassFile.FieldType.object "java/util/Optional"))]
set_option maxRecDepth 65536 in
theorem codes_eq : words1.filter isCode = codes1 := rfl
theorem w_codes : ∀ c ∈ words1.filter isCode, c.before args0 about1 = true := by
  rw [codes_eq]
  intro c hc
  simp only [codes1, List.mem_cons, List.not_mem_nil, or_false] at hc
  rcases hc with rfl | rfl | rfl | rfl | rfl | rfl | rfl | rfl | rfl | rfl | rfl
  · exact w_c0
  · exact w_c1
  · exact w_c2
  · exact w_c3
  · exact w_c4
  · exact w_c5
  · exact w_c6
  · exact w_c7
  · exact w_c8
  · exact w_c9
  · exact w_c10
set_option maxRecDepth 65536 in
theorem w_t1 : (words1.take 24).all (fun c => isCode c || c.before args0 about1) = true := by decide +kernel
set_option maxRecDepth 65536 in
theorem w_t2 : ((words1.drop 24).take 24).all (fun c => isCode c || c.before args0 about1) = true := by decide +kernel
set_option maxRecDepth 65536 in
theorem w_t3 : ((words1.drop 24).drop 24).all (fun c => isCode c || c.before args0 about1) = true := by decide +kernel
theorem w_tables : (allAtoms (Jvm.Cond.code x code maxLocals ret :: tables_1)).before args0 about1 = true := by
  rw [allAtoms_all]
  show words1.all (fun c => c.before args0 about1) = true
  refine all_split ?_ w_codes
  rw [← List.take_append_drop 24 words1, List.all_append, w_t1, ← List.take_append_drop 24 (words1.drop 24), List.all_append, w_t2, w_t3]
  rfl
set_option maxRecDepth 65536 in
theorem w_rest : rest_1_c.before args0 about1 = true := by decide +kernel
set_option maxRecDepth 65536 in
theorem w_case : (Jvm.Cond.and given_1 narrow_1).before args0 about1 = true := by decide +kernel
theorem w_applies : (headSpec (Jvm.Cond.code x code maxLocals ret :: tables_1) room_1).applies x e0.platform about1 = true :=
  (Spec.applies_iff w_frames).mpr ⟨w_running, w_runnable, w_alone, w_named, w_hears, w_ripe, w_room, w_tables⟩
theorem atStart : AtStart classFile x code maxLocals ret World_1 tables_1 room_1 Calls_1 rest_1 Pre_1 launch0 p0 e0 about1 theMethod args0 below0 :=
  ⟨lists_1, trivial, launch0.admits_env _ _ _, launch0.least_env, fairChoices_fair.cas, fairChoices_fair.clock, w_frames, w_args, w_heap, w_applies, trivial, w_rest, w_case⟩
end start1
theorem witness_1 : WitnessClaimed_1 := ⟨start1.p0, start1.e0, start1.about1, start1.theMethod, start1.args0, start1.below0, start1.atStart⟩
end Jvm.Pilot.@@N@@
