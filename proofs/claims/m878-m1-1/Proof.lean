import JvmDerived
import JvmDerived.Pilot.@@N@@Statement
import JvmDerived.Pilot.@@N@@Code
set_option linter.unusedVariables false
set_option linter.unusedSimpArgs false
namespace Jvm.RoadKit
open Sem ClassFile Op Lib Jvm.Stand Jvm.Free Jvm.LawKit
section New
variable {p : Program} {l : Launch} {e : Env} {R : Room} {s : State} {m : MethodId} {args : Array Value} {below : List Frame} {meth : Method} {c : Code} {T : State} {locs : List Loc} {cells slots : Nat}
theorem retI (X : Stand p l e R s m args below meth c T locs cells slots) (hx : p.tables.exec = Jvm.exec) {pc : Nat} {Ls : Array Slot} {z : Int32} {rest : List Value} (hret : meth.sig.returnType = some .int) (hd : decode c.code pc = .ok (.ireturn, 1)) {fs : List Frame}
    (hl : ∀ (f : JFrame) (acts : List Action), f.method = m → f.locked = none → f.entered = [] → (doReturn e (T.setTop f) acts (some (.int z))).1 = T.setFrames fs) : Steps p.tables e below (T.setTop (mkF m pc Ls (.int z :: rest))) (T.setFrames fs) := by
  have hm' : T.vm.method? m = some meth := X.method'
  have hn : narrow .int (.int z) = .int z := rfl
  show Steps p.tables e below (T.setTop { method := m, pc := pc, locals := Ls, stack := _ :: rest, locked := none }) _
  jvm_step X.here [X.here.top, hx, hd, hm', hret, hn]
  first | (intro acts; rw [hl _ acts rfl rfl rfl]) | rw [hl _ _ rfl rfl rfl]
  exact Steps.refl _
theorem own_retA (X : Stand p l e R s m args below meth c T locs cells slots) (hx : p.tables.exec = Jvm.exec) {pc : Nat} {Ls : Array Slot} {v : Value} {t : FieldType} {rest : List Value} (hv : v.isRef = true) (hret : meth.sig.returnType = some t) (ht : t.isReference = true) (hd : decode c.code pc = .ok (.areturn, 1)) {fs : List Frame}
    (hl : ∀ (f : JFrame) (acts : List Action), f.method = m → f.locked = none → f.entered = [] → (doReturn e (T.setTop f) acts (some v)).1 = T.setFrames fs) : Steps p.tables e below (T.setTop (mkF m pc Ls (v :: rest))) (T.setFrames fs) := by
  have hm' : T.vm.method? m = some meth := X.method'
  show Steps p.tables e below (T.setTop { method := m, pc := pc, locals := Ls, stack := _ :: rest, locked := none }) _
  jvm_step X.here [X.here.top, hx, hd, hm', hret, hv, ht]
  first | (intro acts; rw [hl _ acts rfl rfl rfl]) | rw [hl _ _ rfl rfl rfl]
  exact Steps.refl _
theorem own_go {tb : Tables} {e : Env} {below : List Frame} {A B : State} {P : State → Outcome → Prop} (k : ∀ t, Steps tb e below B t → Steps tb e below A t) (h : ∃ s₂ o, Steps tb e below B s₂ ∧ P s₂ o) : ∃ s₂ o, Steps tb e below A s₂ ∧ P s₂ o := by
  obtain ⟨t, o, h1, h2⟩ := h
  exact ⟨t, o, k t h1, h2⟩
theorem own_abs {tb : Tables} {e : Env} {below : List Frame} {A : State} {P0 : State → Outcome → Prop} (h : ∀ P : State → Outcome → Prop, (∀ s₂ o, P0 s₂ o → P s₂ o) → ∃ s₂ o, Steps tb e below A s₂ ∧ P s₂ o) : ∃ s₂ o, Steps tb e below A s₂ ∧ P0 s₂ o := h P0 fun _ _ q => q
theorem own_oldsz {Z : State} {n0 : Nat} {h : Heap} (O : Old Z n0 h) : n0 ≤ h.size := O.1 ▸ O.2.1
theorem own_b255 (x : Int32) : ¬ (x &&& (255 : Int32)) < 0 ∧ ¬ (255 : Int32) < (x &&& (255 : Int32)) := by
  have h := c_and x 255 (by decide)
  have e : (255 : Int32).toInt = 255 := rfl
  have e0 : (0 : Int32).toInt = 0 := rfl
  rw [Int32.lt_iff_toInt_lt, Int32.lt_iff_toInt_lt]
  omega
theorem own_nc2 (x : Int32) : nar .char (x.toUInt32.toUInt16.toUInt32.toInt32) = x.toUInt32.toUInt16.toUInt32.toInt32 := by
  show (((x.toUInt32.toUInt16.toUInt32).toInt32).toUInt32).toUInt16.toUInt32.toInt32 = _
  rw [UInt32.toUInt32_toInt32, UInt16.toUInt16_toUInt32]
theorem own_nb2 (x : Int32) : nar .byte (x.toInt8.toInt32) = x.toInt8.toInt32 := by simp [nar]
/-- a String's bytes, of its chars -/
abbrev own_bs (cs : List Int32) : List Value := (cs.map fun c => c.toInt8.toInt32).map Value.int
theorem own_narR {v : Value} {t : FieldType} (hv : v.isRef = true) : narrow t v = v := by cases v <;> simp [Value.isRef] at hv <;> cases t <;> rfl
theorem own_fitR {v : Value} {s : String} (hv : v.isRef = true) : fits (.object s) v = true := by cases v <;> simp [Value.isRef] at hv <;> rfl
end New
end Jvm.RoadKit
namespace Jvm.Pilot.@@N@@
open Jvm Jvm.ClassFile Sem Op Lib Jvm.Free Jvm.Stand Jvm.LawKit Jvm.RoadKit Bundle Jvm.Pilot.@@N@@.Jvm.D
theorem d_method_2_0 : decode method_2_code 0 = .ok (.iload_n 0, 1) := by decide +kernel
theorem d_method_2_1 : decode method_2_code 1 = .ok (.ifCond .ne 7, 3) := by decide +kernel
theorem d_method_2_4 : decode method_2_code 4 = .ok (.getstatic 7, 3) := by decide +kernel
theorem d_method_2_7 : decode method_2_code 7 = .ok (.areturn, 1) := by decide +kernel
theorem pn_0 : plainName "com/example/lockline/lockline/KindExcludesPinLaw" = true := by first | (simp [plainName, overriddenIn]; done) | decide +kernel
theorem d_method_2_8 : decode method_2_code 8 = .ok (.getstatic 13, 3) := by decide +kernel
theorem d_method_2_11 : decode method_2_code 11 = .ok (.areturn, 1) := by decide +kernel
theorem d_prog_2_method_5_0 : decode prog_2_method_5_code 0 = .ok (.aload_n 0, 1) := by decide +kernel
theorem d_prog_2_method_5_1 : decode prog_2_method_5_code 1 = .ok (.getstatic 7, 3) := by decide +kernel
theorem d_prog_2_method_5_4 : decode prog_2_method_5_code 4 = .ok (.if_acmp .eq 10, 3) := by decide +kernel
theorem d_prog_2_method_5_14 : decode prog_2_method_5_code 14 = .ok (.iconst 1, 1) := by decide +kernel
theorem d_prog_2_method_5_15 : decode prog_2_method_5_code 15 = .ok (.goto 4, 3) := by decide +kernel
theorem d_prog_2_method_5_19 : decode prog_2_method_5_code 19 = .ok (.ireturn, 1) := by decide +kernel
theorem pn_1 : plainName "com/example/lockline/lockline/Contender$Kind" = true := by first | (simp [plainName, overriddenIn]; done) | decide +kernel
theorem d_prog_2_method_5_7 : decode prog_2_method_5_code 7 = .ok (.aload_n 1, 1) := by decide +kernel
theorem d_prog_2_method_5_8 : decode prog_2_method_5_code 8 = .ok (.getstatic 7, 3) := by decide +kernel
theorem d_prog_2_method_5_11 : decode prog_2_method_5_code 11 = .ok (.if_acmp .ne 7, 3) := by decide +kernel
theorem d_prog_2_method_5_18 : decode prog_2_method_5_code 18 = .ok (.iconst 0, 1) := by decide +kernel
theorem pd_0 : parseMethodDescriptor "(I)Lcom/example/lockline/lockline/Contender$Kind;" = some ⟨[.int], some (.object "com/example/lockline/lockline/Contender$Kind")⟩ := by decide +kernel
theorem pd_1 : parseMethodDescriptor "(Lcom/example/lockline/lockline/Contender$Kind;)Z" = some ⟨[(.object "com/example/lockline/lockline/Contender$Kind")], some .boolean⟩ := by decide +kernel
def QK0 (Z : State) (p1 : Int32) (wR : Addr) (wW : Addr) (h0 : Heap) (n0 : Nat) (v : Option Value) (h : Heap) (L : List Loc) : Prop := v = some (.ref wR) ∧ Fr n0 L ∧ h = h0
theorem ef_K0 (m : MethodId) (p1 : Int32) : entryFrame m #[(.int p1)] 1 = mkF m 0 #[.val (.int p1)] [] := by first | (simp [entryFrame, mkF, argsToLocals, Value.category]; done) | rfl | (rfl)
set_option maxRecDepth 65536 in
set_option maxHeartbeats 40000000 in
theorem rmK0 (l : Launch) (Z : State) (a0 : Array Value) (hw : ∀ d ∈ tables_1, d.before a0 Z = true) (ws : List Jvm.Cond) (p1 : Int32) (wR : Addr) (wW : Addr) (h0 : Heap) (n0 : Nat) (O : Old Z n0 h0) (S_R : Sta Z Z.heap "com/example/lockline/lockline/Contender$Kind" "READ" "Lcom/example/lockline/lockline/Contender$Kind;" (.ref wR)) (S_W : Sta Z Z.heap "com/example/lockline/lockline/Contender$Kind" "WRITE" "Lcom/example/lockline/lockline/Contender$Kind;" (.ref wW)) (hp : p1 = (0 : Int32)) :
    MetFree l (⟨"com/example/lockline/lockline/KindExcludesPinLaw", "kindOf", "(I)Lcom/example/lockline/lockline/Contender$Kind;"⟩ : MethodName) (head1 (Jvm.Cond.code (⟨"com/example/lockline/lockline/KindExcludesPinLaw", "kindOf", "(I)Lcom/example/lockline/lockline/Contender$Kind;"⟩ : MethodName) method_2_code 1 (some (.object "com/example/lockline/lockline/Contender$Kind")) :: ws) ({ frames := 0, cells := 0, slots := 0, locals := 0 } : Room)) (fun a U => a = #[(.int p1)] ∧ Z.Warmed39 U.vm ∧ U.heap = h0) (fun _ _ _ _ _ => True) (fun _ U o U' => ∃ v L, o = .returned v ∧ QK0 Z p1 wR wW h0 n0 v U'.heap L ∧ FrameEnd U o U' L ({ frames := 0, cells := 0, slots := 0, locals := 0 } : Room).cells ({ frames := 0, cells := 0, slots := 0, locals := 0 } : Room).slots) := by
  refine MetFree.of_bodySF (plainFor_of_name pn_0) hisR ?_
  intro p e s m args below meth c s₁ Bd hml0 hP hK
  obtain ⟨rfl, hZ, hh⟩ := hP
  have hx := Bd.exec
  have hby := Bd.bytes
  have hml : c.maxLocals = 1 := hml0
  have hown : s.vm.findClass "com/example/lockline/lockline/KindExcludesPinLaw" = some m.cls := findClass_of_methodNamed Bd.named
  have hnm := (name_of_methodNamed Bd.named Bd.method).1
  have X0 : Stand p l e ({ frames := 0, cells := 0, slots := 0, locals := 0 } : Room) s m #[(.int p1)] below meth c s₁ [] 0 0 := Stand.of_body Bd
  have e0 : s₁.heap = h0 := by rw [← hh, Bd.state]; rfl
  have N := Fr.nil n0
  have K : Keep h0 h0 [] := Keep.refl h0 _
  refine own_go (B := s₁.setTop (mkF m 0 #[.val (.int p1)] [])) (fun t k => castTop (ef_K0 m p1) k) ?_
  refine own_abs (fun P hfin => ?_)
  refine own_go (B := s₁.setTop (mkF m 4 #[.val (.int p1)] [])) (fun t k => ?_) ?_
  · show Steps p.tables e below (s₁.setTop (mkF m 0 #[.val (.int p1)] [])) _
    refine XS.iloadN X0.here hx rfl (hb hby d_method_2_0) rfl ?_
    show Steps p.tables e below (s₁.setTop (mkF m 1 #[.val (.int p1)] [(.int p1)])) _
    refine XS.ifNo X0.here hx rfl (hb hby d_method_2_1) rfl ((if0 _ _).trans (teq hp).2) ?_
    show Steps p.tables e below (s₁.setTop (mkF m 4 #[.val (.int p1)] [])) _
    exact k
  obtain ⟨T1, X1, e1, st1⟩ := getS2 X0 hx hZ hown (host := "") (Or.inl (hw _ (List.mem_of_getElem? (i := 4) rfl))) Via.refl e0 (S_R.ext O.2) (g := (mkF m 4 #[.val (.int p1)] [])) rfl (hb hby d_method_2_4)
  refine own_go (B := T1.setTop (mkF m 7 #[.val (.int p1)] [(.ref wR)])) st1 ?_
  obtain ⟨fs, hr, hrun, hended, hW, hsame⟩ := X1.leave (v := some (.ref wR)) (fun h => by rw [Bd.returns] at h; cases h)
  refine ⟨_, _, own_retA X1 hx rfl Bd.returns rfl (hb hby d_method_2_7) hr, hfin _ _ ⟨hrun, hended, _, _, rfl, ?_, ⟨_, rfl⟩, hW, hsame.mono (by decide) (by decide)⟩⟩
  show QK0 Z p1 wR wW h0 n0 _ T1.heap _
  exact ⟨rfl, N, e1⟩
def QK1 (Z : State) (p1 : Int32) (wR : Addr) (wW : Addr) (h0 : Heap) (n0 : Nat) (v : Option Value) (h : Heap) (L : List Loc) : Prop := v = some (.ref wW) ∧ Fr n0 L ∧ h = h0
theorem ef_K1 (m : MethodId) (p1 : Int32) : entryFrame m #[(.int p1)] 1 = mkF m 0 #[.val (.int p1)] [] := by first | (simp [entryFrame, mkF, argsToLocals, Value.category]; done) | rfl | (rfl)
set_option maxRecDepth 65536 in
set_option maxHeartbeats 40000000 in
theorem rmK1 (l : Launch) (Z : State) (a0 : Array Value) (hw : ∀ d ∈ tables_1, d.before a0 Z = true) (ws : List Jvm.Cond) (p1 : Int32) (wR : Addr) (wW : Addr) (h0 : Heap) (n0 : Nat) (O : Old Z n0 h0) (S_R : Sta Z Z.heap "com/example/lockline/lockline/Contender$Kind" "READ" "Lcom/example/lockline/lockline/Contender$Kind;" (.ref wR)) (S_W : Sta Z Z.heap "com/example/lockline/lockline/Contender$Kind" "WRITE" "Lcom/example/lockline/lockline/Contender$Kind;" (.ref wW)) (hp : ¬ p1 = (0 : Int32)) :
    MetFree l (⟨"com/example/lockline/lockline/KindExcludesPinLaw", "kindOf", "(I)Lcom/example/lockline/lockline/Contender$Kind;"⟩ : MethodName) (head1 (Jvm.Cond.code (⟨"com/example/lockline/lockline/KindExcludesPinLaw", "kindOf", "(I)Lcom/example/lockline/lockline/Contender$Kind;"⟩ : MethodName) method_2_code 1 (some (.object "com/example/lockline/lockline/Contender$Kind")) :: ws) ({ frames := 0, cells := 0, slots := 0, locals := 0 } : Room)) (fun a U => a = #[(.int p1)] ∧ Z.Warmed39 U.vm ∧ U.heap = h0) (fun _ _ _ _ _ => True) (fun _ U o U' => ∃ v L, o = .returned v ∧ QK1 Z p1 wR wW h0 n0 v U'.heap L ∧ FrameEnd U o U' L ({ frames := 0, cells := 0, slots := 0, locals := 0 } : Room).cells ({ frames := 0, cells := 0, slots := 0, locals := 0 } : Room).slots) := by
  refine MetFree.of_bodySF (plainFor_of_name pn_0) hisR ?_
  intro p e s m args below meth c s₁ Bd hml0 hP hK
  obtain ⟨rfl, hZ, hh⟩ := hP
  have hx := Bd.exec
  have hby := Bd.bytes
  have hml : c.maxLocals = 1 := hml0
  have hown : s.vm.findClass "com/example/lockline/lockline/KindExcludesPinLaw" = some m.cls := findClass_of_methodNamed Bd.named
  have hnm := (name_of_methodNamed Bd.named Bd.method).1
  have X0 : Stand p l e ({ frames := 0, cells := 0, slots := 0, locals := 0 } : Room) s m #[(.int p1)] below meth c s₁ [] 0 0 := Stand.of_body Bd
  have e0 : s₁.heap = h0 := by rw [← hh, Bd.state]; rfl
  have N := Fr.nil n0
  have K : Keep h0 h0 [] := Keep.refl h0 _
  refine own_go (B := s₁.setTop (mkF m 0 #[.val (.int p1)] [])) (fun t k => castTop (ef_K1 m p1) k) ?_
  refine own_abs (fun P hfin => ?_)
  refine own_go (B := s₁.setTop (mkF m 8 #[.val (.int p1)] [])) (fun t k => ?_) ?_
  · show Steps p.tables e below (s₁.setTop (mkF m 0 #[.val (.int p1)] [])) _
    refine XS.iloadN X0.here hx rfl (hb hby d_method_2_0) rfl ?_
    show Steps p.tables e below (s₁.setTop (mkF m 1 #[.val (.int p1)] [(.int p1)])) _
    refine XS.ifYes X0.here hx rfl (pc0 := 1) (pc' := 8) rfl (hb hby d_method_2_1) rfl ((if0 _ _).trans (feq hp).2) (by decide) (by decide) ?_
    show Steps p.tables e below (s₁.setTop (mkF m 8 #[.val (.int p1)] [])) _
    exact k
  obtain ⟨T1, X1, e1, st1⟩ := getS2 X0 hx hZ hown (host := "") (Or.inl (hw _ (List.mem_of_getElem? (i := 7) rfl))) Via.refl e0 (S_W.ext O.2) (g := (mkF m 8 #[.val (.int p1)] [])) rfl (hb hby d_method_2_8)
  refine own_go (B := T1.setTop (mkF m 11 #[.val (.int p1)] [(.ref wW)])) st1 ?_
  obtain ⟨fs, hr, hrun, hended, hW, hsame⟩ := X1.leave (v := some (.ref wW)) (fun h => by rw [Bd.returns] at h; cases h)
  refine ⟨_, _, own_retA X1 hx rfl Bd.returns rfl (hb hby d_method_2_11) hr, hfin _ _ ⟨hrun, hended, _, _, rfl, ?_, ⟨_, rfl⟩, hW, hsame.mono (by decide) (by decide)⟩⟩
  show QK1 Z p1 wR wW h0 n0 _ T1.heap _
  exact ⟨rfl, N, e1⟩
def QE1 (Z : State) (wR : Addr) (wW : Addr) (b : Addr) (h0 : Heap) (n0 : Nat) (v : Option Value) (h : Heap) (L : List Loc) : Prop := v = some (.int (1 : Int32)) ∧ Fr n0 L ∧ h = h0
theorem ef_E1 (m : MethodId) (wW : Addr) (b : Addr) : entryFrame m #[(.ref wW), (.ref b)] 2 = mkF m 0 #[.val (.ref wW), .val (.ref b)] [] := by first | (simp [entryFrame, mkF, argsToLocals, Value.category]; done) | rfl | (rfl)
set_option maxRecDepth 65536 in
set_option maxHeartbeats 40000000 in
theorem rmE1 (l : Launch) (Z : State) (a0 : Array Value) (hw : ∀ d ∈ tables_1, d.before a0 Z = true) (ws : List Jvm.Cond) (wR : Addr) (wW : Addr) (b : Addr) (h0 : Heap) (n0 : Nat) (O : Old Z n0 h0) (S_R : Sta Z Z.heap "com/example/lockline/lockline/Contender$Kind" "READ" "Lcom/example/lockline/lockline/Contender$Kind;" (.ref wR)) (S_W : Sta Z Z.heap "com/example/lockline/lockline/Contender$Kind" "WRITE" "Lcom/example/lockline/lockline/Contender$Kind;" (.ref wW)) :
    MetFree l (⟨"com/example/lockline/lockline/Contender$Kind", "excludes", "(Lcom/example/lockline/lockline/Contender$Kind;)Z"⟩ : MethodName) (head1 (Jvm.Cond.code (⟨"com/example/lockline/lockline/Contender$Kind", "excludes", "(Lcom/example/lockline/lockline/Contender$Kind;)Z"⟩ : MethodName) prog_2_method_5_code 2 (some .boolean) :: ws) ({ frames := 0, cells := 0, slots := 0, locals := 0 } : Room)) (fun a U => a = #[(.ref wW), (.ref b)] ∧ Z.Warmed39 U.vm ∧ U.heap = h0) (fun _ _ _ _ _ => True) (fun _ U o U' => ∃ v L, o = .returned v ∧ QE1 Z wR wW b h0 n0 v U'.heap L ∧ FrameEnd U o U' L ({ frames := 0, cells := 0, slots := 0, locals := 0 } : Room).cells ({ frames := 0, cells := 0, slots := 0, locals := 0 } : Room).slots) := by
  refine MetFree.of_bodySF (plainFor_of_name pn_1) hisR ?_
  intro p e s m args below meth c s₁ Bd hml0 hP hK
  obtain ⟨rfl, hZ, hh⟩ := hP
  have hx := Bd.exec
  have hby := Bd.bytes
  have hml : c.maxLocals = 2 := hml0
  have hown : s.vm.findClass "com/example/lockline/lockline/Contender$Kind" = some m.cls := findClass_of_methodNamed Bd.named
  have hnm := (name_of_methodNamed Bd.named Bd.method).1
  have X0 : Stand p l e ({ frames := 0, cells := 0, slots := 0, locals := 0 } : Room) s m #[(.ref wW), (.ref b)] below meth c s₁ [] 0 0 := Stand.of_body Bd
  have e0 : s₁.heap = h0 := by rw [← hh, Bd.state]; rfl
  have N := Fr.nil n0
  have K : Keep h0 h0 [] := Keep.refl h0 _
  refine own_go (B := s₁.setTop (mkF m 0 #[.val (.ref wW), .val (.ref b)] [])) (fun t k => castTop (ef_E1 m wW b) k) ?_
  refine own_abs (fun P hfin => ?_)
  refine own_go (B := s₁.setTop (mkF m 1 #[.val (.ref wW), .val (.ref b)] [(.ref wW)])) (fun t k => ?_) ?_
  · show Steps p.tables e below (s₁.setTop (mkF m 0 #[.val (.ref wW), .val (.ref b)] [])) _
    refine XS.aloadN X0.here hx rfl (hb hby d_prog_2_method_5_0) rfl rfl ?_
    show Steps p.tables e below (s₁.setTop (mkF m 1 #[.val (.ref wW), .val (.ref b)] [(.ref wW)])) _
    exact k
  obtain ⟨T1, X1, e1, st1⟩ := getS2 X0 hx hZ hown (host := "") (Or.inl (hw _ (List.mem_of_getElem? (i := 14) rfl))) Via.refl e0 (S_W.ext O.2) (g := (mkF m 1 #[.val (.ref wW), .val (.ref b)] [(.ref wW)])) rfl (hb hby d_prog_2_method_5_1)
  refine own_go (B := T1.setTop (mkF m 4 #[.val (.ref wW), .val (.ref b)] [(.ref wW), (.ref wW)])) st1 ?_
  refine own_go (B := T1.setTop (mkF m 19 #[.val (.ref wW), .val (.ref b)] [(.int (1 : Int32))])) (fun t k => ?_) ?_
  · show Steps p.tables e below (T1.setTop (mkF m 4 #[.val (.ref wW), .val (.ref b)] [(.ref wW), (.ref wW)])) _
    refine Jvm.RoadKit.acmp (g := (mkF m 4 #[.val (.ref wW), .val (.ref b)] [(.ref wW), (.ref wW)])) X1 hx rfl rfl rfl (pc0 := 4) (pc' := 14) (same := true) rfl (hb hby d_prog_2_method_5_4) rfl (decide_eq_true (congrArg Value.ref rfl)) (by decide) (by decide) ?_
    show Steps p.tables e below (T1.setTop (mkF m 14 #[.val (.ref wW), .val (.ref b)] [])) _
    refine XS.iconst X1.here hx rfl (hb hby d_prog_2_method_5_14) ?_
    show Steps p.tables e below (T1.setTop (mkF m 15 #[.val (.ref wW), .val (.ref b)] [(.int (1 : Int32))])) _
    refine XS.goto X1.here hx rfl (pc0 := 15) (pc' := 19) rfl (hb hby d_prog_2_method_5_15) (by decide) (by decide) ?_
    show Steps p.tables e below (T1.setTop (mkF m 19 #[.val (.ref wW), .val (.ref b)] [(.int (1 : Int32))])) _
    exact k
  obtain ⟨fs, hr, hrun, hended, hW, hsame⟩ := X1.leave (v := some (.int (1 : Int32))) (fun h => by rw [Bd.returns] at h; cases h)
  refine ⟨_, _, retN X1 hx (t := .boolean) Bd.returns (by simp) (hb hby d_prog_2_method_5_19) hr, hfin _ _ ⟨hrun, hended, _, _, rfl, ?_, ⟨_, rfl⟩, hW, hsame.mono (by decide) (by decide)⟩⟩
  show QE1 Z wR wW b h0 n0 _ T1.heap _
  exact ⟨rfl, N, e1⟩
def QE2 (Z : State) (wR : Addr) (wW : Addr) (h0 : Heap) (n0 : Nat) (v : Option Value) (h : Heap) (L : List Loc) : Prop := v = some (.int (1 : Int32)) ∧ Fr n0 L ∧ h = h0
theorem ef_E2 (m : MethodId) (wR : Addr) (wW : Addr) : entryFrame m #[(.ref wR), (.ref wW)] 2 = mkF m 0 #[.val (.ref wR), .val (.ref wW)] [] := by first | (simp [entryFrame, mkF, argsToLocals, Value.category]; done) | rfl | (rfl)
set_option maxRecDepth 65536 in
set_option maxHeartbeats 40000000 in
theorem rmE2 (l : Launch) (Z : State) (a0 : Array Value) (hw : ∀ d ∈ tables_1, d.before a0 Z = true) (ws : List Jvm.Cond) (wR : Addr) (wW : Addr) (h0 : Heap) (n0 : Nat) (O : Old Z n0 h0) (S_R : Sta Z Z.heap "com/example/lockline/lockline/Contender$Kind" "READ" "Lcom/example/lockline/lockline/Contender$Kind;" (.ref wR)) (S_W : Sta Z Z.heap "com/example/lockline/lockline/Contender$Kind" "WRITE" "Lcom/example/lockline/lockline/Contender$Kind;" (.ref wW)) (hne : wR ≠ wW) :
    MetFree l (⟨"com/example/lockline/lockline/Contender$Kind", "excludes", "(Lcom/example/lockline/lockline/Contender$Kind;)Z"⟩ : MethodName) (head1 (Jvm.Cond.code (⟨"com/example/lockline/lockline/Contender$Kind", "excludes", "(Lcom/example/lockline/lockline/Contender$Kind;)Z"⟩ : MethodName) prog_2_method_5_code 2 (some .boolean) :: ws) ({ frames := 0, cells := 0, slots := 0, locals := 0 } : Room)) (fun a U => a = #[(.ref wR), (.ref wW)] ∧ Z.Warmed39 U.vm ∧ U.heap = h0) (fun _ _ _ _ _ => True) (fun _ U o U' => ∃ v L, o = .returned v ∧ QE2 Z wR wW h0 n0 v U'.heap L ∧ FrameEnd U o U' L ({ frames := 0, cells := 0, slots := 0, locals := 0 } : Room).cells ({ frames := 0, cells := 0, slots := 0, locals := 0 } : Room).slots) := by
  refine MetFree.of_bodySF (plainFor_of_name pn_1) hisR ?_
  intro p e s m args below meth c s₁ Bd hml0 hP hK
  obtain ⟨rfl, hZ, hh⟩ := hP
  have hx := Bd.exec
  have hby := Bd.bytes
  have hml : c.maxLocals = 2 := hml0
  have hown : s.vm.findClass "com/example/lockline/lockline/Contender$Kind" = some m.cls := findClass_of_methodNamed Bd.named
  have hnm := (name_of_methodNamed Bd.named Bd.method).1
  have X0 : Stand p l e ({ frames := 0, cells := 0, slots := 0, locals := 0 } : Room) s m #[(.ref wR), (.ref wW)] below meth c s₁ [] 0 0 := Stand.of_body Bd
  have e0 : s₁.heap = h0 := by rw [← hh, Bd.state]; rfl
  have N := Fr.nil n0
  have K : Keep h0 h0 [] := Keep.refl h0 _
  refine own_go (B := s₁.setTop (mkF m 0 #[.val (.ref wR), .val (.ref wW)] [])) (fun t k => castTop (ef_E2 m wR wW) k) ?_
  refine own_abs (fun P hfin => ?_)
  refine own_go (B := s₁.setTop (mkF m 1 #[.val (.ref wR), .val (.ref wW)] [(.ref wR)])) (fun t k => ?_) ?_
  · show Steps p.tables e below (s₁.setTop (mkF m 0 #[.val (.ref wR), .val (.ref wW)] [])) _
    refine XS.aloadN X0.here hx rfl (hb hby d_prog_2_method_5_0) rfl rfl ?_
    show Steps p.tables e below (s₁.setTop (mkF m 1 #[.val (.ref wR), .val (.ref wW)] [(.ref wR)])) _
    exact k
  obtain ⟨T1, X1, e1, st1⟩ := getS2 X0 hx hZ hown (host := "") (Or.inl (hw _ (List.mem_of_getElem? (i := 14) rfl))) Via.refl e0 (S_W.ext O.2) (g := (mkF m 1 #[.val (.ref wR), .val (.ref wW)] [(.ref wR)])) rfl (hb hby d_prog_2_method_5_1)
  refine own_go (B := T1.setTop (mkF m 4 #[.val (.ref wR), .val (.ref wW)] [(.ref wW), (.ref wR)])) st1 ?_
  refine own_go (B := T1.setTop (mkF m 8 #[.val (.ref wR), .val (.ref wW)] [(.ref wW)])) (fun t k => ?_) ?_
  · show Steps p.tables e below (T1.setTop (mkF m 4 #[.val (.ref wR), .val (.ref wW)] [(.ref wW), (.ref wR)])) _
    refine Jvm.RoadKit.acmp (g := (mkF m 4 #[.val (.ref wR), .val (.ref wW)] [(.ref wW), (.ref wR)])) X1 hx rfl rfl rfl (pc0 := 4) (pc' := 7) (same := false) rfl (hb hby d_prog_2_method_5_4) rfl (decide_eq_false fun q => hne (Value.ref.inj q)) (by decide) (by decide) ?_
    show Steps p.tables e below (T1.setTop (mkF m 7 #[.val (.ref wR), .val (.ref wW)] [])) _
    refine XS.aloadN X1.here hx rfl (hb hby d_prog_2_method_5_7) rfl rfl ?_
    show Steps p.tables e below (T1.setTop (mkF m 8 #[.val (.ref wR), .val (.ref wW)] [(.ref wW)])) _
    exact k
  obtain ⟨T2, X2, e2, st2⟩ := getS2 X1 hx hZ hown (host := "") (Or.inl (hw _ (List.mem_of_getElem? (i := 14) rfl))) Via.refl e1 (S_W.ext O.2) (g := (mkF m 8 #[.val (.ref wR), .val (.ref wW)] [(.ref wW)])) rfl (hb hby d_prog_2_method_5_8)
  refine own_go (B := T2.setTop (mkF m 11 #[.val (.ref wR), .val (.ref wW)] [(.ref wW), (.ref wW)])) st2 ?_
  refine own_go (B := T2.setTop (mkF m 19 #[.val (.ref wR), .val (.ref wW)] [(.int (1 : Int32))])) (fun t k => ?_) ?_
  · show Steps p.tables e below (T2.setTop (mkF m 11 #[.val (.ref wR), .val (.ref wW)] [(.ref wW), (.ref wW)])) _
    refine Jvm.RoadKit.acmp (g := (mkF m 11 #[.val (.ref wR), .val (.ref wW)] [(.ref wW), (.ref wW)])) X2 hx rfl rfl rfl (pc0 := 11) (pc' := 14) (same := true) rfl (hb hby d_prog_2_method_5_11) rfl (decide_eq_true (congrArg Value.ref rfl)) (by decide) (by decide) ?_
    show Steps p.tables e below (T2.setTop (mkF m 14 #[.val (.ref wR), .val (.ref wW)] [])) _
    refine XS.iconst X2.here hx rfl (hb hby d_prog_2_method_5_14) ?_
    show Steps p.tables e below (T2.setTop (mkF m 15 #[.val (.ref wR), .val (.ref wW)] [(.int (1 : Int32))])) _
    refine XS.goto X2.here hx rfl (pc0 := 15) (pc' := 19) rfl (hb hby d_prog_2_method_5_15) (by decide) (by decide) ?_
    show Steps p.tables e below (T2.setTop (mkF m 19 #[.val (.ref wR), .val (.ref wW)] [(.int (1 : Int32))])) _
    exact k
  obtain ⟨fs, hr, hrun, hended, hW, hsame⟩ := X2.leave (v := some (.int (1 : Int32))) (fun h => by rw [Bd.returns] at h; cases h)
  refine ⟨_, _, retN X2 hx (t := .boolean) Bd.returns (by simp) (hb hby d_prog_2_method_5_19) hr, hfin _ _ ⟨hrun, hended, _, _, rfl, ?_, ⟨_, rfl⟩, hW, hsame.mono (by decide) (by decide)⟩⟩
  show QE2 Z wR wW h0 n0 _ T2.heap _
  exact ⟨rfl, N, e2⟩
def QE3 (Z : State) (wR : Addr) (wW : Addr) (h0 : Heap) (n0 : Nat) (v : Option Value) (h : Heap) (L : List Loc) : Prop := v = some (.int (0 : Int32)) ∧ Fr n0 L ∧ h = h0
theorem ef_E3 (m : MethodId) (wR : Addr) : entryFrame m #[(.ref wR), (.ref wR)] 2 = mkF m 0 #[.val (.ref wR), .val (.ref wR)] [] := by first | (simp [entryFrame, mkF, argsToLocals, Value.category]; done) | rfl | (rfl)
set_option maxRecDepth 65536 in
set_option maxHeartbeats 40000000 in
theorem rmE3 (l : Launch) (Z : State) (a0 : Array Value) (hw : ∀ d ∈ tables_1, d.before a0 Z = true) (ws : List Jvm.Cond) (wR : Addr) (wW : Addr) (h0 : Heap) (n0 : Nat) (O : Old Z n0 h0) (S_R : Sta Z Z.heap "com/example/lockline/lockline/Contender$Kind" "READ" "Lcom/example/lockline/lockline/Contender$Kind;" (.ref wR)) (S_W : Sta Z Z.heap "com/example/lockline/lockline/Contender$Kind" "WRITE" "Lcom/example/lockline/lockline/Contender$Kind;" (.ref wW)) (hne : wR ≠ wW) :
    MetFree l (⟨"com/example/lockline/lockline/Contender$Kind", "excludes", "(Lcom/example/lockline/lockline/Contender$Kind;)Z"⟩ : MethodName) (head1 (Jvm.Cond.code (⟨"com/example/lockline/lockline/Contender$Kind", "excludes", "(Lcom/example/lockline/lockline/Contender$Kind;)Z"⟩ : MethodName) prog_2_method_5_code 2 (some .boolean) :: ws) ({ frames := 0, cells := 0, slots := 0, locals := 0 } : Room)) (fun a U => a = #[(.ref wR), (.ref wR)] ∧ Z.Warmed39 U.vm ∧ U.heap = h0) (fun _ _ _ _ _ => True) (fun _ U o U' => ∃ v L, o = .returned v ∧ QE3 Z wR wW h0 n0 v U'.heap L ∧ FrameEnd U o U' L ({ frames := 0, cells := 0, slots := 0, locals := 0 } : Room).cells ({ frames := 0, cells := 0, slots := 0, locals := 0 } : Room).slots) := by
  refine MetFree.of_bodySF (plainFor_of_name pn_1) hisR ?_
  intro p e s m args below meth c s₁ Bd hml0 hP hK
  obtain ⟨rfl, hZ, hh⟩ := hP
  have hx := Bd.exec
  have hby := Bd.bytes
  have hml : c.maxLocals = 2 := hml0
  have hown : s.vm.findClass "com/example/lockline/lockline/Contender$Kind" = some m.cls := findClass_of_methodNamed Bd.named
  have hnm := (name_of_methodNamed Bd.named Bd.method).1
  have X0 : Stand p l e ({ frames := 0, cells := 0, slots := 0, locals := 0 } : Room) s m #[(.ref wR), (.ref wR)] below meth c s₁ [] 0 0 := Stand.of_body Bd
  have e0 : s₁.heap = h0 := by rw [← hh, Bd.state]; rfl
  have N := Fr.nil n0
  have K : Keep h0 h0 [] := Keep.refl h0 _
  refine own_go (B := s₁.setTop (mkF m 0 #[.val (.ref wR), .val (.ref wR)] [])) (fun t k => castTop (ef_E3 m wR) k) ?_
  refine own_abs (fun P hfin => ?_)
  refine own_go (B := s₁.setTop (mkF m 1 #[.val (.ref wR), .val (.ref wR)] [(.ref wR)])) (fun t k => ?_) ?_
  · show Steps p.tables e below (s₁.setTop (mkF m 0 #[.val (.ref wR), .val (.ref wR)] [])) _
    refine XS.aloadN X0.here hx rfl (hb hby d_prog_2_method_5_0) rfl rfl ?_
    show Steps p.tables e below (s₁.setTop (mkF m 1 #[.val (.ref wR), .val (.ref wR)] [(.ref wR)])) _
    exact k
  obtain ⟨T1, X1, e1, st1⟩ := getS2 X0 hx hZ hown (host := "") (Or.inl (hw _ (List.mem_of_getElem? (i := 14) rfl))) Via.refl e0 (S_W.ext O.2) (g := (mkF m 1 #[.val (.ref wR), .val (.ref wR)] [(.ref wR)])) rfl (hb hby d_prog_2_method_5_1)
  refine own_go (B := T1.setTop (mkF m 4 #[.val (.ref wR), .val (.ref wR)] [(.ref wW), (.ref wR)])) st1 ?_
  refine own_go (B := T1.setTop (mkF m 8 #[.val (.ref wR), .val (.ref wR)] [(.ref wR)])) (fun t k => ?_) ?_
  · show Steps p.tables e below (T1.setTop (mkF m 4 #[.val (.ref wR), .val (.ref wR)] [(.ref wW), (.ref wR)])) _
    refine Jvm.RoadKit.acmp (g := (mkF m 4 #[.val (.ref wR), .val (.ref wR)] [(.ref wW), (.ref wR)])) X1 hx rfl rfl rfl (pc0 := 4) (pc' := 7) (same := false) rfl (hb hby d_prog_2_method_5_4) rfl (decide_eq_false fun q => hne (Value.ref.inj q)) (by decide) (by decide) ?_
    show Steps p.tables e below (T1.setTop (mkF m 7 #[.val (.ref wR), .val (.ref wR)] [])) _
    refine XS.aloadN X1.here hx rfl (hb hby d_prog_2_method_5_7) rfl rfl ?_
    show Steps p.tables e below (T1.setTop (mkF m 8 #[.val (.ref wR), .val (.ref wR)] [(.ref wR)])) _
    exact k
  obtain ⟨T2, X2, e2, st2⟩ := getS2 X1 hx hZ hown (host := "") (Or.inl (hw _ (List.mem_of_getElem? (i := 14) rfl))) Via.refl e1 (S_W.ext O.2) (g := (mkF m 8 #[.val (.ref wR), .val (.ref wR)] [(.ref wR)])) rfl (hb hby d_prog_2_method_5_8)
  refine own_go (B := T2.setTop (mkF m 11 #[.val (.ref wR), .val (.ref wR)] [(.ref wW), (.ref wR)])) st2 ?_
  refine own_go (B := T2.setTop (mkF m 19 #[.val (.ref wR), .val (.ref wR)] [(.int (0 : Int32))])) (fun t k => ?_) ?_
  · show Steps p.tables e below (T2.setTop (mkF m 11 #[.val (.ref wR), .val (.ref wR)] [(.ref wW), (.ref wR)])) _
    refine Jvm.RoadKit.acmp (g := (mkF m 11 #[.val (.ref wR), .val (.ref wR)] [(.ref wW), (.ref wR)])) X2 hx rfl rfl rfl (pc0 := 11) (pc' := 18) (same := false) rfl (hb hby d_prog_2_method_5_11) rfl (decide_eq_false fun q => hne (Value.ref.inj q)) (by decide) (by decide) ?_
    show Steps p.tables e below (T2.setTop (mkF m 18 #[.val (.ref wR), .val (.ref wR)] [])) _
    refine XS.iconst X2.here hx rfl (hb hby d_prog_2_method_5_18) ?_
    show Steps p.tables e below (T2.setTop (mkF m 19 #[.val (.ref wR), .val (.ref wR)] [(.int (0 : Int32))])) _
    exact k
  obtain ⟨fs, hr, hrun, hended, hW, hsame⟩ := X2.leave (v := some (.int (0 : Int32))) (fun h => by rw [Bd.returns] at h; cases h)
  refine ⟨_, _, retN X2 hx (t := .boolean) Bd.returns (by simp) (hb hby d_prog_2_method_5_19) hr, hfin _ _ ⟨hrun, hended, _, _, rfl, ?_, ⟨_, rfl⟩, hW, hsame.mono (by decide) (by decide)⟩⟩
  show QE3 Z wR wW h0 n0 _ T2.heap _
  exact ⟨rfl, N, e2⟩
def Q0 (Z : State) (p1 : Int32) (p2 : Int32) (wR : Addr) (wW : Addr) (h0 : Heap) (n0 : Nat) (v : Option Value) (h : Heap) (L : List Loc) : Prop := v = some (.int 1) ∧ Fr n0 L
theorem ef_0 (m : MethodId) (p1 : Int32) (p2 : Int32) : entryFrame m #[(.int p1), (.int p2)] maxLocals = mkF m 0 #[.val (.int p1), .val (.int p2), .unset, .unset, .unset, .unset, .unset, .unset] [] := by first | (simp [entryFrame, mkF, argsToLocals, Value.category, maxLocals]; done) | rfl | (rfl)
set_option maxRecDepth 65536 in
set_option maxHeartbeats 40000000 in
theorem rm0 (l : Launch) (Z : State) (a0 : Array Value) (hw : ∀ d ∈ tables_1, d.before a0 Z = true) (ws : List Jvm.Cond) (p1 : Int32) (p2 : Int32) (wR : Addr) (wW : Addr) (h0 : Heap) (n0 : Nat) (O : Old Z n0 h0) (S_R : Sta Z Z.heap "com/example/lockline/lockline/Contender$Kind" "READ" "Lcom/example/lockline/lockline/Contender$Kind;" (.ref wR)) (S_W : Sta Z Z.heap "com/example/lockline/lockline/Contender$Kind" "WRITE" "Lcom/example/lockline/lockline/Contender$Kind;" (.ref wW)) (E_R : Exa Z Z.heap wR "com/example/lockline/lockline/Contender$Kind") (E_W : Exa Z Z.heap wW "com/example/lockline/lockline/Contender$Kind") (hne : wR ≠ wW) :
    MetFree l x (head1 (Jvm.Cond.code x code maxLocals ret :: ws) room_1) (fun a U => a = #[(.int p1), (.int p2)] ∧ Z.Warmed39 U.vm ∧ U.heap = h0) (fun _ _ _ _ _ => True) (fun _ U o U' => ∃ v L, o = .returned v ∧ Q0 Z p1 p2 wR wW h0 n0 v U'.heap L ∧ FrameEnd U o U' L room_1.cells room_1.slots) := by
  refine MetFree.of_bodySF (plainFor_of_name pn_0) hisR ?_
  intro p e s m args below meth c s₁ Bd hml0 hP hK
  obtain ⟨rfl, hZ, hh⟩ := hP
  have hx := Bd.exec
  have hby := Bd.bytes
  have hml : c.maxLocals = 8 := hml0
  have hown : s.vm.findClass "com/example/lockline/lockline/KindExcludesPinLaw" = some m.cls := findClass_of_methodNamed Bd.named
  have hnm := (name_of_methodNamed Bd.named Bd.method).1
  have X0 : Stand p l e room_1 s m #[(.int p1), (.int p2)] below meth c s₁ [] 0 0 := Stand.of_body Bd
  have e0 : s₁.heap = h0 := by rw [← hh, Bd.state]; rfl
  have N := Fr.nil n0
  refine own_go (B := s₁.setTop (mkF m 0 #[.val (.int p1), .val (.int p2), .unset, .unset, .unset, .unset, .unset, .unset] [])) (fun t k => castTop (ef_0 m p1 p2) k) ?_
  refine own_abs (fun P hfin => ?_)
  refine own_go (B := s₁.setTop (mkF m 8 #[.val (.int p1), .val (.int p2), .val (.int (p1 &&& (1 : Int32))), .val (.int (p2 &&& (1 : Int32))), .unset, .unset, .unset, .unset] [])) (fun t k => ?_) ?_
  · show Steps p.tables e below (s₁.setTop (mkF m 0 #[.val (.int p1), .val (.int p2), .unset, .unset, .unset, .unset, .unset, .unset] [])) _
    refine XS.iloadN X0.here hx rfl (hb hby at_0) rfl ?_
    show Steps p.tables e below (s₁.setTop (mkF m 1 #[.val (.int p1), .val (.int p2), .unset, .unset, .unset, .unset, .unset, .unset] [(.int p1)])) _
    refine XS.iconst X0.here hx rfl (hb hby at_1) ?_
    show Steps p.tables e below (s₁.setTop (mkF m 2 #[.val (.int p1), .val (.int p2), .unset, .unset, .unset, .unset, .unset, .unset] [(.int (1 : Int32)), (.int p1)])) _
    refine XS.iand X0.here hx rfl (hb hby at_2) rfl ?_
    show Steps p.tables e below (s₁.setTop (mkF m 3 #[.val (.int p1), .val (.int p2), .unset, .unset, .unset, .unset, .unset, .unset] [(.int (p1 &&& (1 : Int32)))])) _
    refine XS.istoreN X0.here hx rfl (hb hby at_3) rfl (l' := #[.val (.int p1), .val (.int p2), .val (.int (p1 &&& (1 : Int32))), .unset, .unset, .unset, .unset, .unset]) rfl ?_
    show Steps p.tables e below (s₁.setTop (mkF m 4 #[.val (.int p1), .val (.int p2), .val (.int (p1 &&& (1 : Int32))), .unset, .unset, .unset, .unset, .unset] [])) _
    refine XS.iloadN X0.here hx rfl (hb hby at_4) rfl ?_
    show Steps p.tables e below (s₁.setTop (mkF m 5 #[.val (.int p1), .val (.int p2), .val (.int (p1 &&& (1 : Int32))), .unset, .unset, .unset, .unset, .unset] [(.int p2)])) _
    refine XS.iconst X0.here hx rfl (hb hby at_5) ?_
    show Steps p.tables e below (s₁.setTop (mkF m 6 #[.val (.int p1), .val (.int p2), .val (.int (p1 &&& (1 : Int32))), .unset, .unset, .unset, .unset, .unset] [(.int (1 : Int32)), (.int p2)])) _
    refine XS.iand X0.here hx rfl (hb hby at_6) rfl ?_
    show Steps p.tables e below (s₁.setTop (mkF m 7 #[.val (.int p1), .val (.int p2), .val (.int (p1 &&& (1 : Int32))), .unset, .unset, .unset, .unset, .unset] [(.int (p2 &&& (1 : Int32)))])) _
    refine XS.istoreN X0.here hx rfl (hb hby at_7) rfl (l' := #[.val (.int p1), .val (.int p2), .val (.int (p1 &&& (1 : Int32))), .val (.int (p2 &&& (1 : Int32))), .unset, .unset, .unset, .unset]) rfl ?_
    show Steps p.tables e below (s₁.setTop (mkF m 8 #[.val (.int p1), .val (.int p2), .val (.int (p1 &&& (1 : Int32))), .val (.int (p2 &&& (1 : Int32))), .unset, .unset, .unset, .unset] [])) _
    exact k
  obtain ⟨ba, hba⟩ : ∃ z : Int32, z = (p1 &&& (1 : Int32)) := ⟨_, rfl⟩
  rw [← hba]
  obtain ⟨bb, hbb⟩ : ∃ z : Int32, z = (p2 &&& (1 : Int32)) := ⟨_, rfl⟩
  rw [← hbb]
  by_cases ka : ba = (0 : Int32)
  · by_cases kb : bb = (0 : Int32)
    · refine own_go (B := s₁.setTop (mkF m 9 #[.val (.int p1), .val (.int p2), .val (.int ba), .val (.int bb), .unset, .unset, .unset, .unset] [(.int ba)])) (fun t k => ?_) ?_
      · show Steps p.tables e below (s₁.setTop (mkF m 8 #[.val (.int p1), .val (.int p2), .val (.int ba), .val (.int bb), .unset, .unset, .unset, .unset] [])) _
        refine XS.iloadN X0.here hx rfl (hb hby at_8) rfl ?_
        show Steps p.tables e below (s₁.setTop (mkF m 9 #[.val (.int p1), .val (.int p2), .val (.int ba), .val (.int bb), .unset, .unset, .unset, .unset] [(.int ba)])) _
        exact k
      -- pc 9: com/example/lockline/lockline/KindExcludesPinLaw.kindOf
      obtain ⟨_, _, ⟨T1, L1, k1, n1⟩, -, X1, ⟨Lc1, hQ1, l1, y1, z1⟩, st1⟩ := Jvm.LawKit.callS X0 hx (y := (⟨"com/example/lockline/lockline/KindExcludesPinLaw", "kindOf", "(I)Lcom/example/lockline/lockline/Contender$Kind;"⟩ : MethodName)) hown (mvT hZ (hw _ (List.mem_of_getElem? (i := 0) rfl))) (mvT hZ (hw _ (List.mem_of_getElem? (i := 1) rfl))) (mvT hZ (hw _ (List.mem_of_getElem? (i := 2) rfl))) (mvT hZ (hw _ (List.mem_of_getElem? (i := 3) rfl))) (by decide) (backOf (W := 0) (rmK0 l Z a0 hw [] ba wR wW h0 n0 O S_R S_W ka) hZ (hw _ (List.mem_of_getElem? (i := 3) rfl)) (hw _ (List.mem_of_getElem? (i := 2) rfl)) (by decide) (by decide)) (g := (mkF m 9 #[.val (.int p1), .val (.int p2), .val (.int ba), .val (.int bb), .unset, .unset, .unset, .unset] [(.int ba)])) rfl (by rw [hml]; rfl) (argsL := [(.int ba)]) (rest := []) (lenOf pd_0 rfl) rfl (by show 2 * 0 + _ ≤ _; exact Nat.le_of_eq rfl) (hb hby at_9) (fun _ hWm => ⟨rfl, e0, (by decide : 0 + 0 ≤ _), (by decide : 0 + 0 ≤ _)⟩)
      dsimp only [Pt.U, Pt.locs, Pt.cells, Pt.slots] at X1 l1 y1 z1 st1 hQ1
      subst l1 y1 z1
      obtain ⟨rfl, Nq1, Kq1⟩ := hQ1
      replace N := Fr.app N Nq1
      refine own_go (B := T1.setTop (mkF m 12 #[.val (.int p1), .val (.int p2), .val (.int ba), .val (.int bb), .unset, .unset, .unset, .unset] [(.ref wR)])) st1 ?_
      refine own_go (B := T1.setTop (mkF m 15 #[.val (.int p1), .val (.int p2), .val (.int ba), .val (.int bb), .val (.ref wR), .unset, .unset, .unset] [(.int bb)])) (fun t k => ?_) ?_
      · show Steps p.tables e below (T1.setTop (mkF m 12 #[.val (.int p1), .val (.int p2), .val (.int ba), .val (.int bb), .unset, .unset, .unset, .unset] [(.ref wR)])) _
        refine XS.astore X1.here hx rfl (hb hby at_12) rfl rfl (l' := #[.val (.int p1), .val (.int p2), .val (.int ba), .val (.int bb), .val (.ref wR), .unset, .unset, .unset]) rfl ?_
        show Steps p.tables e below (T1.setTop (mkF m 14 #[.val (.int p1), .val (.int p2), .val (.int ba), .val (.int bb), .val (.ref wR), .unset, .unset, .unset] [])) _
        refine XS.iloadN X1.here hx rfl (hb hby at_14) rfl ?_
        show Steps p.tables e below (T1.setTop (mkF m 15 #[.val (.int p1), .val (.int p2), .val (.int ba), .val (.int bb), .val (.ref wR), .unset, .unset, .unset] [(.int bb)])) _
        exact k
      -- pc 15: com/example/lockline/lockline/KindExcludesPinLaw.kindOf
      obtain ⟨_, _, ⟨T2, L2, k2, n2⟩, -, X2, ⟨Lc2, hQ2, l2, y2, z2⟩, st2⟩ := Jvm.LawKit.callS X1 hx (y := (⟨"com/example/lockline/lockline/KindExcludesPinLaw", "kindOf", "(I)Lcom/example/lockline/lockline/Contender$Kind;"⟩ : MethodName)) hown (mvT hZ (hw _ (List.mem_of_getElem? (i := 0) rfl))) (mvT hZ (hw _ (List.mem_of_getElem? (i := 1) rfl))) (mvT hZ (hw _ (List.mem_of_getElem? (i := 2) rfl))) (mvT hZ (hw _ (List.mem_of_getElem? (i := 3) rfl))) (by decide) (backOf (W := 0) (rmK0 l Z a0 hw [] bb wR wW h0 n0 O S_R S_W kb) hZ (hw _ (List.mem_of_getElem? (i := 3) rfl)) (hw _ (List.mem_of_getElem? (i := 2) rfl)) (by decide) (by decide)) (g := (mkF m 15 #[.val (.int p1), .val (.int p2), .val (.int ba), .val (.int bb), .val (.ref wR), .unset, .unset, .unset] [(.int bb)])) rfl (by rw [hml]; rfl) (argsL := [(.int bb)]) (rest := []) (lenOf pd_0 rfl) rfl (by show 2 * 0 + _ ≤ _; exact Nat.le_of_eq rfl) (hb hby at_15) (fun _ hWm => ⟨rfl, Kq1, (by decide : 0 + 0 ≤ _), (by decide : 0 + 0 ≤ _)⟩)
      dsimp only [Pt.U, Pt.locs, Pt.cells, Pt.slots] at X2 l2 y2 z2 st2 hQ2
      subst l2 y2 z2
      obtain ⟨rfl, Nq2, Kq2⟩ := hQ2
      replace N := Fr.app N Nq2
      refine own_go (B := T2.setTop (mkF m 18 #[.val (.int p1), .val (.int p2), .val (.int ba), .val (.int bb), .val (.ref wR), .unset, .unset, .unset] [(.ref wR)])) st2 ?_
      refine own_go (B := T2.setTop (mkF m 51 #[.val (.int p1), .val (.int p2), .val (.int ba), .val (.int bb), .val (.ref wR), .val (.ref wR), .val (.int (1 : Int32)), .val (.int (0 : Int32))] [(.ref wR), (.ref wR)])) (fun t k => ?_) ?_
      · show Steps p.tables e below (T2.setTop (mkF m 18 #[.val (.int p1), .val (.int p2), .val (.int ba), .val (.int bb), .val (.ref wR), .unset, .unset, .unset] [(.ref wR)])) _
        refine XS.astore X2.here hx rfl (hb hby at_18) rfl rfl (l' := #[.val (.int p1), .val (.int p2), .val (.int ba), .val (.int bb), .val (.ref wR), .val (.ref wR), .unset, .unset]) rfl ?_
        show Steps p.tables e below (T2.setTop (mkF m 20 #[.val (.int p1), .val (.int p2), .val (.int ba), .val (.int bb), .val (.ref wR), .val (.ref wR), .unset, .unset] [])) _
        refine XS.iloadN X2.here hx rfl (hb hby at_20) rfl ?_
        show Steps p.tables e below (T2.setTop (mkF m 21 #[.val (.int p1), .val (.int p2), .val (.int ba), .val (.int bb), .val (.ref wR), .val (.ref wR), .unset, .unset] [(.int ba)])) _
        refine XS.ifNo X2.here hx rfl (hb hby at_21) rfl ((if0 _ _).trans (teq ka).2) ?_
        show Steps p.tables e below (T2.setTop (mkF m 24 #[.val (.int p1), .val (.int p2), .val (.int ba), .val (.int bb), .val (.ref wR), .val (.ref wR), .unset, .unset] [])) _
        refine XS.iloadN X2.here hx rfl (hb hby at_24) rfl ?_
        show Steps p.tables e below (T2.setTop (mkF m 25 #[.val (.int p1), .val (.int p2), .val (.int ba), .val (.int bb), .val (.ref wR), .val (.ref wR), .unset, .unset] [(.int bb)])) _
        refine XS.ifNo X2.here hx rfl (hb hby at_25) rfl ((if0 _ _).trans (teq kb).2) ?_
        show Steps p.tables e below (T2.setTop (mkF m 28 #[.val (.int p1), .val (.int p2), .val (.int ba), .val (.int bb), .val (.ref wR), .val (.ref wR), .unset, .unset] [])) _
        refine XS.iconst X2.here hx rfl (hb hby at_28) ?_
        show Steps p.tables e below (T2.setTop (mkF m 29 #[.val (.int p1), .val (.int p2), .val (.int ba), .val (.int bb), .val (.ref wR), .val (.ref wR), .unset, .unset] [(.int (1 : Int32))])) _
        refine XS.goto X2.here hx rfl (pc0 := 29) (pc' := 33) rfl (hb hby at_29) (by decide) (by decide) ?_
        show Steps p.tables e below (T2.setTop (mkF m 33 #[.val (.int p1), .val (.int p2), .val (.int ba), .val (.int bb), .val (.ref wR), .val (.ref wR), .unset, .unset] [(.int (1 : Int32))])) _
        refine XS.istore X2.here hx rfl (hb hby at_33) rfl (l' := #[.val (.int p1), .val (.int p2), .val (.int ba), .val (.int bb), .val (.ref wR), .val (.ref wR), .val (.int (1 : Int32)), .unset]) rfl ?_
        show Steps p.tables e below (T2.setTop (mkF m 35 #[.val (.int p1), .val (.int p2), .val (.int ba), .val (.int bb), .val (.ref wR), .val (.ref wR), .val (.int (1 : Int32)), .unset] [])) _
        refine XS.iload X2.here hx rfl (hb hby at_35) rfl ?_
        show Steps p.tables e below (T2.setTop (mkF m 37 #[.val (.int p1), .val (.int p2), .val (.int ba), .val (.int bb), .val (.ref wR), .val (.ref wR), .val (.int (1 : Int32)), .unset] [(.int (1 : Int32))])) _
        refine XS.ifYes X2.here hx rfl (pc0 := 37) (pc' := 44) rfl (hb hby at_37) rfl ((if0 _ _).trans (feq (by decide)).2) (by decide) (by decide) ?_
        show Steps p.tables e below (T2.setTop (mkF m 44 #[.val (.int p1), .val (.int p2), .val (.int ba), .val (.int bb), .val (.ref wR), .val (.ref wR), .val (.int (1 : Int32)), .unset] [])) _
        refine XS.iconst X2.here hx rfl (hb hby at_44) ?_
        show Steps p.tables e below (T2.setTop (mkF m 45 #[.val (.int p1), .val (.int p2), .val (.int ba), .val (.int bb), .val (.ref wR), .val (.ref wR), .val (.int (1 : Int32)), .unset] [(.int (0 : Int32))])) _
        refine XS.istore X2.here hx rfl (hb hby at_45) rfl (l' := #[.val (.int p1), .val (.int p2), .val (.int ba), .val (.int bb), .val (.ref wR), .val (.ref wR), .val (.int (1 : Int32)), .val (.int (0 : Int32))]) rfl ?_
        show Steps p.tables e below (T2.setTop (mkF m 47 #[.val (.int p1), .val (.int p2), .val (.int ba), .val (.int bb), .val (.ref wR), .val (.ref wR), .val (.int (1 : Int32)), .val (.int (0 : Int32))] [])) _
        refine XS.aload X2.here hx rfl (hb hby at_47) rfl rfl ?_
        show Steps p.tables e below (T2.setTop (mkF m 49 #[.val (.int p1), .val (.int p2), .val (.int ba), .val (.int bb), .val (.ref wR), .val (.ref wR), .val (.int (1 : Int32)), .val (.int (0 : Int32))] [(.ref wR)])) _
        refine XS.aload X2.here hx rfl (hb hby at_49) rfl rfl ?_
        show Steps p.tables e below (T2.setTop (mkF m 51 #[.val (.int p1), .val (.int p2), .val (.int ba), .val (.int bb), .val (.ref wR), .val (.ref wR), .val (.int (1 : Int32)), .val (.int (0 : Int32))] [(.ref wR), (.ref wR)])) _
        exact k
      -- pc 51: com/example/lockline/lockline/Contender$Kind.excludes
      obtain ⟨cq3, kq3, q3a, q3b, q3c⟩ := isOf hZ Kq2 (E_R.ext O.2)
      obtain ⟨_, _, ⟨T3, L3, k3, n3⟩, -, X3, ⟨Lc3, hQ3, l3, y3, z3⟩, st3⟩ := X2.virtualBack hx (y := (⟨"com/example/lockline/lockline/Contender$Kind", "excludes", "(Lcom/example/lockline/lockline/Contender$Kind;)Z"⟩ : MethodName)) (z := (⟨"com/example/lockline/lockline/Contender$Kind", "excludes", "(Lcom/example/lockline/lockline/Contender$Kind;)Z"⟩ : MethodName)) hown (mvT hZ (hw _ (List.mem_of_getElem? (i := 9) rfl))) (mvT hZ (hw _ (List.mem_of_getElem? (i := 10) rfl))) (notFace_of_selects (args := #[]) (mvT hZ (hw _ (List.mem_of_getElem? (i := 12) rfl)))) (mvT hZ (hw _ (List.mem_of_getElem? (i := 12) rfl))) (mvT hZ (hw _ (List.mem_of_getElem? (i := 11) rfl))) (by decide) (backOf (W := 0) (rmE3 l Z a0 hw [] wR wW h0 n0 O S_R S_W hne) hZ (hw _ (List.mem_of_getElem? (i := 13) rfl)) (hw _ (List.mem_of_getElem? (i := 5) rfl)) (by decide) (by decide)) q3a q3c (g := (mkF m 51 #[.val (.int p1), .val (.int p2), .val (.int ba), .val (.int bb), .val (.ref wR), .val (.ref wR), .val (.int (1 : Int32)), .val (.int (0 : Int32))] [(.ref wR), (.ref wR)])) rfl (by rw [hml]; rfl) (Steps.refl _) (argsL := [(.ref wR)]) (rest := []) (lenOf pd_1 rfl) rfl (by show 2 * 0 + _ ≤ _; exact Nat.le_of_eq rfl) (hb hby at_51) (fun _ hWm => ⟨rfl, Kq2, (by decide : 0 + 0 ≤ _), (by decide : 0 + 0 ≤ _)⟩)
      dsimp only [Pt.U, Pt.locs, Pt.cells, Pt.slots] at X3 l3 y3 z3 st3 hQ3
      subst l3 y3 z3
      obtain ⟨rfl, Nq3, Kq3⟩ := hQ3
      replace N := Fr.app N Nq3
      refine own_go (B := T3.setTop (mkF m 54 #[.val (.int p1), .val (.int p2), .val (.int ba), .val (.int bb), .val (.ref wR), .val (.ref wR), .val (.int (1 : Int32)), .val (.int (0 : Int32))] [(.int (0 : Int32))])) (fun t k => st3.trans k) ?_
      refine own_go (B := T3.setTop (mkF m 64 #[.val (.int p1), .val (.int p2), .val (.int ba), .val (.int bb), .val (.ref wR), .val (.ref wR), .val (.int (1 : Int32)), .val (.int (0 : Int32))] [(.int (1 : Int32))])) (fun t k => ?_) ?_
      · show Steps p.tables e below (T3.setTop (mkF m 54 #[.val (.int p1), .val (.int p2), .val (.int ba), .val (.int bb), .val (.ref wR), .val (.ref wR), .val (.int (1 : Int32)), .val (.int (0 : Int32))] [(.int (0 : Int32))])) _
        refine XS.iload X3.here hx rfl (hb hby at_54) rfl ?_
        show Steps p.tables e below (T3.setTop (mkF m 56 #[.val (.int p1), .val (.int p2), .val (.int ba), .val (.int bb), .val (.ref wR), .val (.ref wR), .val (.int (1 : Int32)), .val (.int (0 : Int32))] [(.int (0 : Int32)), (.int (0 : Int32))])) _
        refine XS.icmpNo X3.here hx rfl (hb hby at_56) rfl (teq rfl).2 ?_
        show Steps p.tables e below (T3.setTop (mkF m 59 #[.val (.int p1), .val (.int p2), .val (.int ba), .val (.int bb), .val (.ref wR), .val (.ref wR), .val (.int (1 : Int32)), .val (.int (0 : Int32))] [])) _
        refine XS.iconst X3.here hx rfl (hb hby at_59) ?_
        show Steps p.tables e below (T3.setTop (mkF m 60 #[.val (.int p1), .val (.int p2), .val (.int ba), .val (.int bb), .val (.ref wR), .val (.ref wR), .val (.int (1 : Int32)), .val (.int (0 : Int32))] [(.int (1 : Int32))])) _
        refine XS.goto X3.here hx rfl (pc0 := 60) (pc' := 64) rfl (hb hby at_60) (by decide) (by decide) ?_
        show Steps p.tables e below (T3.setTop (mkF m 64 #[.val (.int p1), .val (.int p2), .val (.int ba), .val (.int bb), .val (.ref wR), .val (.ref wR), .val (.int (1 : Int32)), .val (.int (0 : Int32))] [(.int (1 : Int32))])) _
        exact k
      obtain ⟨fs, hr, hrun, hended, hW, hsame⟩ := X3.leave (v := some (.int (1 : Int32))) (fun h => by rw [Bd.returns] at h; cases h)
      refine ⟨_, _, retN X3 hx (t := .boolean) Bd.returns (by simp) (hb hby at_64) hr, hfin _ _ ⟨hrun, hended, _, _, rfl, ?_, ⟨_, rfl⟩, hW, hsame.mono (by decide) (by decide)⟩⟩
      show Q0 Z p1 p2 wR wW h0 n0 _ T3.heap _
      rw [Kq3]
      exact ⟨rfl, N⟩
    · refine own_go (B := s₁.setTop (mkF m 9 #[.val (.int p1), .val (.int p2), .val (.int ba), .val (.int bb), .unset, .unset, .unset, .unset] [(.int ba)])) (fun t k => ?_) ?_
      · show Steps p.tables e below (s₁.setTop (mkF m 8 #[.val (.int p1), .val (.int p2), .val (.int ba), .val (.int bb), .unset, .unset, .unset, .unset] [])) _
        refine XS.iloadN X0.here hx rfl (hb hby at_8) rfl ?_
        show Steps p.tables e below (s₁.setTop (mkF m 9 #[.val (.int p1), .val (.int p2), .val (.int ba), .val (.int bb), .unset, .unset, .unset, .unset] [(.int ba)])) _
        exact k
      -- pc 9: com/example/lockline/lockline/KindExcludesPinLaw.kindOf
      obtain ⟨_, _, ⟨T5, L5, k5, n5⟩, -, X5, ⟨Lc5, hQ5, l5, y5, z5⟩, st5⟩ := Jvm.LawKit.callS X0 hx (y := (⟨"com/example/lockline/lockline/KindExcludesPinLaw", "kindOf", "(I)Lcom/example/lockline/lockline/Contender$Kind;"⟩ : MethodName)) hown (mvT hZ (hw _ (List.mem_of_getElem? (i := 0) rfl))) (mvT hZ (hw _ (List.mem_of_getElem? (i := 1) rfl))) (mvT hZ (hw _ (List.mem_of_getElem? (i := 2) rfl))) (mvT hZ (hw _ (List.mem_of_getElem? (i := 3) rfl))) (by decide) (backOf (W := 0) (rmK0 l Z a0 hw [] ba wR wW h0 n0 O S_R S_W ka) hZ (hw _ (List.mem_of_getElem? (i := 3) rfl)) (hw _ (List.mem_of_getElem? (i := 2) rfl)) (by decide) (by decide)) (g := (mkF m 9 #[.val (.int p1), .val (.int p2), .val (.int ba), .val (.int bb), .unset, .unset, .unset, .unset] [(.int ba)])) rfl (by rw [hml]; rfl) (argsL := [(.int ba)]) (rest := []) (lenOf pd_0 rfl) rfl (by show 2 * 0 + _ ≤ _; exact Nat.le_of_eq rfl) (hb hby at_9) (fun _ hWm => ⟨rfl, e0, (by decide : 0 + 0 ≤ _), (by decide : 0 + 0 ≤ _)⟩)
      dsimp only [Pt.U, Pt.locs, Pt.cells, Pt.slots] at X5 l5 y5 z5 st5 hQ5
      subst l5 y5 z5
      obtain ⟨rfl, Nq5, Kq5⟩ := hQ5
      replace N := Fr.app N Nq5
      refine own_go (B := T5.setTop (mkF m 12 #[.val (.int p1), .val (.int p2), .val (.int ba), .val (.int bb), .unset, .unset, .unset, .unset] [(.ref wR)])) st5 ?_
      refine own_go (B := T5.setTop (mkF m 15 #[.val (.int p1), .val (.int p2), .val (.int ba), .val (.int bb), .val (.ref wR), .unset, .unset, .unset] [(.int bb)])) (fun t k => ?_) ?_
      · show Steps p.tables e below (T5.setTop (mkF m 12 #[.val (.int p1), .val (.int p2), .val (.int ba), .val (.int bb), .unset, .unset, .unset, .unset] [(.ref wR)])) _
        refine XS.astore X5.here hx rfl (hb hby at_12) rfl rfl (l' := #[.val (.int p1), .val (.int p2), .val (.int ba), .val (.int bb), .val (.ref wR), .unset, .unset, .unset]) rfl ?_
        show Steps p.tables e below (T5.setTop (mkF m 14 #[.val (.int p1), .val (.int p2), .val (.int ba), .val (.int bb), .val (.ref wR), .unset, .unset, .unset] [])) _
        refine XS.iloadN X5.here hx rfl (hb hby at_14) rfl ?_
        show Steps p.tables e below (T5.setTop (mkF m 15 #[.val (.int p1), .val (.int p2), .val (.int ba), .val (.int bb), .val (.ref wR), .unset, .unset, .unset] [(.int bb)])) _
        exact k
      -- pc 15: com/example/lockline/lockline/KindExcludesPinLaw.kindOf
      obtain ⟨_, _, ⟨T6, L6, k6, n6⟩, -, X6, ⟨Lc6, hQ6, l6, y6, z6⟩, st6⟩ := Jvm.LawKit.callS X5 hx (y := (⟨"com/example/lockline/lockline/KindExcludesPinLaw", "kindOf", "(I)Lcom/example/lockline/lockline/Contender$Kind;"⟩ : MethodName)) hown (mvT hZ (hw _ (List.mem_of_getElem? (i := 0) rfl))) (mvT hZ (hw _ (List.mem_of_getElem? (i := 1) rfl))) (mvT hZ (hw _ (List.mem_of_getElem? (i := 2) rfl))) (mvT hZ (hw _ (List.mem_of_getElem? (i := 3) rfl))) (by decide) (backOf (W := 0) (rmK1 l Z a0 hw [] bb wR wW h0 n0 O S_R S_W kb) hZ (hw _ (List.mem_of_getElem? (i := 3) rfl)) (hw _ (List.mem_of_getElem? (i := 2) rfl)) (by decide) (by decide)) (g := (mkF m 15 #[.val (.int p1), .val (.int p2), .val (.int ba), .val (.int bb), .val (.ref wR), .unset, .unset, .unset] [(.int bb)])) rfl (by rw [hml]; rfl) (argsL := [(.int bb)]) (rest := []) (lenOf pd_0 rfl) rfl (by show 2 * 0 + _ ≤ _; exact Nat.le_of_eq rfl) (hb hby at_15) (fun _ hWm => ⟨rfl, Kq5, (by decide : 0 + 0 ≤ _), (by decide : 0 + 0 ≤ _)⟩)
      dsimp only [Pt.U, Pt.locs, Pt.cells, Pt.slots] at X6 l6 y6 z6 st6 hQ6
      subst l6 y6 z6
      obtain ⟨rfl, Nq6, Kq6⟩ := hQ6
      replace N := Fr.app N Nq6
      refine own_go (B := T6.setTop (mkF m 18 #[.val (.int p1), .val (.int p2), .val (.int ba), .val (.int bb), .val (.ref wR), .unset, .unset, .unset] [(.ref wW)])) st6 ?_
      refine own_go (B := T6.setTop (mkF m 51 #[.val (.int p1), .val (.int p2), .val (.int ba), .val (.int bb), .val (.ref wR), .val (.ref wW), .val (.int (0 : Int32)), .val (.int (1 : Int32))] [(.ref wW), (.ref wR)])) (fun t k => ?_) ?_
      · show Steps p.tables e below (T6.setTop (mkF m 18 #[.val (.int p1), .val (.int p2), .val (.int ba), .val (.int bb), .val (.ref wR), .unset, .unset, .unset] [(.ref wW)])) _
        refine XS.astore X6.here hx rfl (hb hby at_18) rfl rfl (l' := #[.val (.int p1), .val (.int p2), .val (.int ba), .val (.int bb), .val (.ref wR), .val (.ref wW), .unset, .unset]) rfl ?_
        show Steps p.tables e below (T6.setTop (mkF m 20 #[.val (.int p1), .val (.int p2), .val (.int ba), .val (.int bb), .val (.ref wR), .val (.ref wW), .unset, .unset] [])) _
        refine XS.iloadN X6.here hx rfl (hb hby at_20) rfl ?_
        show Steps p.tables e below (T6.setTop (mkF m 21 #[.val (.int p1), .val (.int p2), .val (.int ba), .val (.int bb), .val (.ref wR), .val (.ref wW), .unset, .unset] [(.int ba)])) _
        refine XS.ifNo X6.here hx rfl (hb hby at_21) rfl ((if0 _ _).trans (teq ka).2) ?_
        show Steps p.tables e below (T6.setTop (mkF m 24 #[.val (.int p1), .val (.int p2), .val (.int ba), .val (.int bb), .val (.ref wR), .val (.ref wW), .unset, .unset] [])) _
        refine XS.iloadN X6.here hx rfl (hb hby at_24) rfl ?_
        show Steps p.tables e below (T6.setTop (mkF m 25 #[.val (.int p1), .val (.int p2), .val (.int ba), .val (.int bb), .val (.ref wR), .val (.ref wW), .unset, .unset] [(.int bb)])) _
        refine XS.ifYes X6.here hx rfl (pc0 := 25) (pc' := 32) rfl (hb hby at_25) rfl ((if0 _ _).trans (feq kb).2) (by decide) (by decide) ?_
        show Steps p.tables e below (T6.setTop (mkF m 32 #[.val (.int p1), .val (.int p2), .val (.int ba), .val (.int bb), .val (.ref wR), .val (.ref wW), .unset, .unset] [])) _
        refine XS.iconst X6.here hx rfl (hb hby at_32) ?_
        show Steps p.tables e below (T6.setTop (mkF m 33 #[.val (.int p1), .val (.int p2), .val (.int ba), .val (.int bb), .val (.ref wR), .val (.ref wW), .unset, .unset] [(.int (0 : Int32))])) _
        refine XS.istore X6.here hx rfl (hb hby at_33) rfl (l' := #[.val (.int p1), .val (.int p2), .val (.int ba), .val (.int bb), .val (.ref wR), .val (.ref wW), .val (.int (0 : Int32)), .unset]) rfl ?_
        show Steps p.tables e below (T6.setTop (mkF m 35 #[.val (.int p1), .val (.int p2), .val (.int ba), .val (.int bb), .val (.ref wR), .val (.ref wW), .val (.int (0 : Int32)), .unset] [])) _
        refine XS.iload X6.here hx rfl (hb hby at_35) rfl ?_
        show Steps p.tables e below (T6.setTop (mkF m 37 #[.val (.int p1), .val (.int p2), .val (.int ba), .val (.int bb), .val (.ref wR), .val (.ref wW), .val (.int (0 : Int32)), .unset] [(.int (0 : Int32))])) _
        refine XS.ifNo X6.here hx rfl (hb hby at_37) rfl ((if0 _ _).trans (teq (by decide)).2) ?_
        show Steps p.tables e below (T6.setTop (mkF m 40 #[.val (.int p1), .val (.int p2), .val (.int ba), .val (.int bb), .val (.ref wR), .val (.ref wW), .val (.int (0 : Int32)), .unset] [])) _
        refine XS.iconst X6.here hx rfl (hb hby at_40) ?_
        show Steps p.tables e below (T6.setTop (mkF m 41 #[.val (.int p1), .val (.int p2), .val (.int ba), .val (.int bb), .val (.ref wR), .val (.ref wW), .val (.int (0 : Int32)), .unset] [(.int (1 : Int32))])) _
        refine XS.goto X6.here hx rfl (pc0 := 41) (pc' := 45) rfl (hb hby at_41) (by decide) (by decide) ?_
        show Steps p.tables e below (T6.setTop (mkF m 45 #[.val (.int p1), .val (.int p2), .val (.int ba), .val (.int bb), .val (.ref wR), .val (.ref wW), .val (.int (0 : Int32)), .unset] [(.int (1 : Int32))])) _
        refine XS.istore X6.here hx rfl (hb hby at_45) rfl (l' := #[.val (.int p1), .val (.int p2), .val (.int ba), .val (.int bb), .val (.ref wR), .val (.ref wW), .val (.int (0 : Int32)), .val (.int (1 : Int32))]) rfl ?_
        show Steps p.tables e below (T6.setTop (mkF m 47 #[.val (.int p1), .val (.int p2), .val (.int ba), .val (.int bb), .val (.ref wR), .val (.ref wW), .val (.int (0 : Int32)), .val (.int (1 : Int32))] [])) _
        refine XS.aload X6.here hx rfl (hb hby at_47) rfl rfl ?_
        show Steps p.tables e below (T6.setTop (mkF m 49 #[.val (.int p1), .val (.int p2), .val (.int ba), .val (.int bb), .val (.ref wR), .val (.ref wW), .val (.int (0 : Int32)), .val (.int (1 : Int32))] [(.ref wR)])) _
        refine XS.aload X6.here hx rfl (hb hby at_49) rfl rfl ?_
        show Steps p.tables e below (T6.setTop (mkF m 51 #[.val (.int p1), .val (.int p2), .val (.int ba), .val (.int bb), .val (.ref wR), .val (.ref wW), .val (.int (0 : Int32)), .val (.int (1 : Int32))] [(.ref wW), (.ref wR)])) _
        exact k
      -- pc 51: com/example/lockline/lockline/Contender$Kind.excludes
      obtain ⟨cq7, kq7, q7a, q7b, q7c⟩ := isOf hZ Kq6 (E_R.ext O.2)
      obtain ⟨_, _, ⟨T7, L7, k7, n7⟩, -, X7, ⟨Lc7, hQ7, l7, y7, z7⟩, st7⟩ := X6.virtualBack hx (y := (⟨"com/example/lockline/lockline/Contender$Kind", "excludes", "(Lcom/example/lockline/lockline/Contender$Kind;)Z"⟩ : MethodName)) (z := (⟨"com/example/lockline/lockline/Contender$Kind", "excludes", "(Lcom/example/lockline/lockline/Contender$Kind;)Z"⟩ : MethodName)) hown (mvT hZ (hw _ (List.mem_of_getElem? (i := 9) rfl))) (mvT hZ (hw _ (List.mem_of_getElem? (i := 10) rfl))) (notFace_of_selects (args := #[]) (mvT hZ (hw _ (List.mem_of_getElem? (i := 12) rfl)))) (mvT hZ (hw _ (List.mem_of_getElem? (i := 12) rfl))) (mvT hZ (hw _ (List.mem_of_getElem? (i := 11) rfl))) (by decide) (backOf (W := 0) (rmE2 l Z a0 hw [] wR wW h0 n0 O S_R S_W hne) hZ (hw _ (List.mem_of_getElem? (i := 13) rfl)) (hw _ (List.mem_of_getElem? (i := 5) rfl)) (by decide) (by decide)) q7a q7c (g := (mkF m 51 #[.val (.int p1), .val (.int p2), .val (.int ba), .val (.int bb), .val (.ref wR), .val (.ref wW), .val (.int (0 : Int32)), .val (.int (1 : Int32))] [(.ref wW), (.ref wR)])) rfl (by rw [hml]; rfl) (Steps.refl _) (argsL := [(.ref wW)]) (rest := []) (lenOf pd_1 rfl) rfl (by show 2 * 0 + _ ≤ _; exact Nat.le_of_eq rfl) (hb hby at_51) (fun _ hWm => ⟨rfl, Kq6, (by decide : 0 + 0 ≤ _), (by decide : 0 + 0 ≤ _)⟩)
      dsimp only [Pt.U, Pt.locs, Pt.cells, Pt.slots] at X7 l7 y7 z7 st7 hQ7
      subst l7 y7 z7
      obtain ⟨rfl, Nq7, Kq7⟩ := hQ7
      replace N := Fr.app N Nq7
      refine own_go (B := T7.setTop (mkF m 54 #[.val (.int p1), .val (.int p2), .val (.int ba), .val (.int bb), .val (.ref wR), .val (.ref wW), .val (.int (0 : Int32)), .val (.int (1 : Int32))] [(.int (1 : Int32))])) (fun t k => st7.trans k) ?_
      refine own_go (B := T7.setTop (mkF m 64 #[.val (.int p1), .val (.int p2), .val (.int ba), .val (.int bb), .val (.ref wR), .val (.ref wW), .val (.int (0 : Int32)), .val (.int (1 : Int32))] [(.int (1 : Int32))])) (fun t k => ?_) ?_
      · show Steps p.tables e below (T7.setTop (mkF m 54 #[.val (.int p1), .val (.int p2), .val (.int ba), .val (.int bb), .val (.ref wR), .val (.ref wW), .val (.int (0 : Int32)), .val (.int (1 : Int32))] [(.int (1 : Int32))])) _
        refine XS.iload X7.here hx rfl (hb hby at_54) rfl ?_
        show Steps p.tables e below (T7.setTop (mkF m 56 #[.val (.int p1), .val (.int p2), .val (.int ba), .val (.int bb), .val (.ref wR), .val (.ref wW), .val (.int (0 : Int32)), .val (.int (1 : Int32))] [(.int (1 : Int32)), (.int (1 : Int32))])) _
        refine XS.icmpNo X7.here hx rfl (hb hby at_56) rfl (teq rfl).2 ?_
        show Steps p.tables e below (T7.setTop (mkF m 59 #[.val (.int p1), .val (.int p2), .val (.int ba), .val (.int bb), .val (.ref wR), .val (.ref wW), .val (.int (0 : Int32)), .val (.int (1 : Int32))] [])) _
        refine XS.iconst X7.here hx rfl (hb hby at_59) ?_
        show Steps p.tables e below (T7.setTop (mkF m 60 #[.val (.int p1), .val (.int p2), .val (.int ba), .val (.int bb), .val (.ref wR), .val (.ref wW), .val (.int (0 : Int32)), .val (.int (1 : Int32))] [(.int (1 : Int32))])) _
        refine XS.goto X7.here hx rfl (pc0 := 60) (pc' := 64) rfl (hb hby at_60) (by decide) (by decide) ?_
        show Steps p.tables e below (T7.setTop (mkF m 64 #[.val (.int p1), .val (.int p2), .val (.int ba), .val (.int bb), .val (.ref wR), .val (.ref wW), .val (.int (0 : Int32)), .val (.int (1 : Int32))] [(.int (1 : Int32))])) _
        exact k
      obtain ⟨fs, hr, hrun, hended, hW, hsame⟩ := X7.leave (v := some (.int (1 : Int32))) (fun h => by rw [Bd.returns] at h; cases h)
      refine ⟨_, _, retN X7 hx (t := .boolean) Bd.returns (by simp) (hb hby at_64) hr, hfin _ _ ⟨hrun, hended, _, _, rfl, ?_, ⟨_, rfl⟩, hW, hsame.mono (by decide) (by decide)⟩⟩
      show Q0 Z p1 p2 wR wW h0 n0 _ T7.heap _
      rw [Kq7]
      exact ⟨rfl, N⟩
  · by_cases kb : bb = (0 : Int32)
    · refine own_go (B := s₁.setTop (mkF m 9 #[.val (.int p1), .val (.int p2), .val (.int ba), .val (.int bb), .unset, .unset, .unset, .unset] [(.int ba)])) (fun t k => ?_) ?_
      · show Steps p.tables e below (s₁.setTop (mkF m 8 #[.val (.int p1), .val (.int p2), .val (.int ba), .val (.int bb), .unset, .unset, .unset, .unset] [])) _
        refine XS.iloadN X0.here hx rfl (hb hby at_8) rfl ?_
        show Steps p.tables e below (s₁.setTop (mkF m 9 #[.val (.int p1), .val (.int p2), .val (.int ba), .val (.int bb), .unset, .unset, .unset, .unset] [(.int ba)])) _
        exact k
      -- pc 9: com/example/lockline/lockline/KindExcludesPinLaw.kindOf
      obtain ⟨_, _, ⟨T9, L9, k9, n9⟩, -, X9, ⟨Lc9, hQ9, l9, y9, z9⟩, st9⟩ := Jvm.LawKit.callS X0 hx (y := (⟨"com/example/lockline/lockline/KindExcludesPinLaw", "kindOf", "(I)Lcom/example/lockline/lockline/Contender$Kind;"⟩ : MethodName)) hown (mvT hZ (hw _ (List.mem_of_getElem? (i := 0) rfl))) (mvT hZ (hw _ (List.mem_of_getElem? (i := 1) rfl))) (mvT hZ (hw _ (List.mem_of_getElem? (i := 2) rfl))) (mvT hZ (hw _ (List.mem_of_getElem? (i := 3) rfl))) (by decide) (backOf (W := 0) (rmK1 l Z a0 hw [] ba wR wW h0 n0 O S_R S_W ka) hZ (hw _ (List.mem_of_getElem? (i := 3) rfl)) (hw _ (List.mem_of_getElem? (i := 2) rfl)) (by decide) (by decide)) (g := (mkF m 9 #[.val (.int p1), .val (.int p2), .val (.int ba), .val (.int bb), .unset, .unset, .unset, .unset] [(.int ba)])) rfl (by rw [hml]; rfl) (argsL := [(.int ba)]) (rest := []) (lenOf pd_0 rfl) rfl (by show 2 * 0 + _ ≤ _; exact Nat.le_of_eq rfl) (hb hby at_9) (fun _ hWm => ⟨rfl, e0, (by decide : 0 + 0 ≤ _), (by decide : 0 + 0 ≤ _)⟩)
      dsimp only [Pt.U, Pt.locs, Pt.cells, Pt.slots] at X9 l9 y9 z9 st9 hQ9
      subst l9 y9 z9
      obtain ⟨rfl, Nq9, Kq9⟩ := hQ9
      replace N := Fr.app N Nq9
      refine own_go (B := T9.setTop (mkF m 12 #[.val (.int p1), .val (.int p2), .val (.int ba), .val (.int bb), .unset, .unset, .unset, .unset] [(.ref wW)])) st9 ?_
      refine own_go (B := T9.setTop (mkF m 15 #[.val (.int p1), .val (.int p2), .val (.int ba), .val (.int bb), .val (.ref wW), .unset, .unset, .unset] [(.int bb)])) (fun t k => ?_) ?_
      · show Steps p.tables e below (T9.setTop (mkF m 12 #[.val (.int p1), .val (.int p2), .val (.int ba), .val (.int bb), .unset, .unset, .unset, .unset] [(.ref wW)])) _
        refine XS.astore X9.here hx rfl (hb hby at_12) rfl rfl (l' := #[.val (.int p1), .val (.int p2), .val (.int ba), .val (.int bb), .val (.ref wW), .unset, .unset, .unset]) rfl ?_
        show Steps p.tables e below (T9.setTop (mkF m 14 #[.val (.int p1), .val (.int p2), .val (.int ba), .val (.int bb), .val (.ref wW), .unset, .unset, .unset] [])) _
        refine XS.iloadN X9.here hx rfl (hb hby at_14) rfl ?_
        show Steps p.tables e below (T9.setTop (mkF m 15 #[.val (.int p1), .val (.int p2), .val (.int ba), .val (.int bb), .val (.ref wW), .unset, .unset, .unset] [(.int bb)])) _
        exact k
      -- pc 15: com/example/lockline/lockline/KindExcludesPinLaw.kindOf
      obtain ⟨_, _, ⟨T10, L10, k10, n10⟩, -, X10, ⟨Lc10, hQ10, l10, y10, z10⟩, st10⟩ := Jvm.LawKit.callS X9 hx (y := (⟨"com/example/lockline/lockline/KindExcludesPinLaw", "kindOf", "(I)Lcom/example/lockline/lockline/Contender$Kind;"⟩ : MethodName)) hown (mvT hZ (hw _ (List.mem_of_getElem? (i := 0) rfl))) (mvT hZ (hw _ (List.mem_of_getElem? (i := 1) rfl))) (mvT hZ (hw _ (List.mem_of_getElem? (i := 2) rfl))) (mvT hZ (hw _ (List.mem_of_getElem? (i := 3) rfl))) (by decide) (backOf (W := 0) (rmK0 l Z a0 hw [] bb wR wW h0 n0 O S_R S_W kb) hZ (hw _ (List.mem_of_getElem? (i := 3) rfl)) (hw _ (List.mem_of_getElem? (i := 2) rfl)) (by decide) (by decide)) (g := (mkF m 15 #[.val (.int p1), .val (.int p2), .val (.int ba), .val (.int bb), .val (.ref wW), .unset, .unset, .unset] [(.int bb)])) rfl (by rw [hml]; rfl) (argsL := [(.int bb)]) (rest := []) (lenOf pd_0 rfl) rfl (by show 2 * 0 + _ ≤ _; exact Nat.le_of_eq rfl) (hb hby at_15) (fun _ hWm => ⟨rfl, Kq9, (by decide : 0 + 0 ≤ _), (by decide : 0 + 0 ≤ _)⟩)
      dsimp only [Pt.U, Pt.locs, Pt.cells, Pt.slots] at X10 l10 y10 z10 st10 hQ10
      subst l10 y10 z10
      obtain ⟨rfl, Nq10, Kq10⟩ := hQ10
      replace N := Fr.app N Nq10
      refine own_go (B := T10.setTop (mkF m 18 #[.val (.int p1), .val (.int p2), .val (.int ba), .val (.int bb), .val (.ref wW), .unset, .unset, .unset] [(.ref wR)])) st10 ?_
      refine own_go (B := T10.setTop (mkF m 51 #[.val (.int p1), .val (.int p2), .val (.int ba), .val (.int bb), .val (.ref wW), .val (.ref wR), .val (.int (0 : Int32)), .val (.int (1 : Int32))] [(.ref wR), (.ref wW)])) (fun t k => ?_) ?_
      · show Steps p.tables e below (T10.setTop (mkF m 18 #[.val (.int p1), .val (.int p2), .val (.int ba), .val (.int bb), .val (.ref wW), .unset, .unset, .unset] [(.ref wR)])) _
        refine XS.astore X10.here hx rfl (hb hby at_18) rfl rfl (l' := #[.val (.int p1), .val (.int p2), .val (.int ba), .val (.int bb), .val (.ref wW), .val (.ref wR), .unset, .unset]) rfl ?_
        show Steps p.tables e below (T10.setTop (mkF m 20 #[.val (.int p1), .val (.int p2), .val (.int ba), .val (.int bb), .val (.ref wW), .val (.ref wR), .unset, .unset] [])) _
        refine XS.iloadN X10.here hx rfl (hb hby at_20) rfl ?_
        show Steps p.tables e below (T10.setTop (mkF m 21 #[.val (.int p1), .val (.int p2), .val (.int ba), .val (.int bb), .val (.ref wW), .val (.ref wR), .unset, .unset] [(.int ba)])) _
        refine XS.ifYes X10.here hx rfl (pc0 := 21) (pc' := 32) rfl (hb hby at_21) rfl ((if0 _ _).trans (feq ka).2) (by decide) (by decide) ?_
        show Steps p.tables e below (T10.setTop (mkF m 32 #[.val (.int p1), .val (.int p2), .val (.int ba), .val (.int bb), .val (.ref wW), .val (.ref wR), .unset, .unset] [])) _
        refine XS.iconst X10.here hx rfl (hb hby at_32) ?_
        show Steps p.tables e below (T10.setTop (mkF m 33 #[.val (.int p1), .val (.int p2), .val (.int ba), .val (.int bb), .val (.ref wW), .val (.ref wR), .unset, .unset] [(.int (0 : Int32))])) _
        refine XS.istore X10.here hx rfl (hb hby at_33) rfl (l' := #[.val (.int p1), .val (.int p2), .val (.int ba), .val (.int bb), .val (.ref wW), .val (.ref wR), .val (.int (0 : Int32)), .unset]) rfl ?_
        show Steps p.tables e below (T10.setTop (mkF m 35 #[.val (.int p1), .val (.int p2), .val (.int ba), .val (.int bb), .val (.ref wW), .val (.ref wR), .val (.int (0 : Int32)), .unset] [])) _
        refine XS.iload X10.here hx rfl (hb hby at_35) rfl ?_
        show Steps p.tables e below (T10.setTop (mkF m 37 #[.val (.int p1), .val (.int p2), .val (.int ba), .val (.int bb), .val (.ref wW), .val (.ref wR), .val (.int (0 : Int32)), .unset] [(.int (0 : Int32))])) _
        refine XS.ifNo X10.here hx rfl (hb hby at_37) rfl ((if0 _ _).trans (teq (by decide)).2) ?_
        show Steps p.tables e below (T10.setTop (mkF m 40 #[.val (.int p1), .val (.int p2), .val (.int ba), .val (.int bb), .val (.ref wW), .val (.ref wR), .val (.int (0 : Int32)), .unset] [])) _
        refine XS.iconst X10.here hx rfl (hb hby at_40) ?_
        show Steps p.tables e below (T10.setTop (mkF m 41 #[.val (.int p1), .val (.int p2), .val (.int ba), .val (.int bb), .val (.ref wW), .val (.ref wR), .val (.int (0 : Int32)), .unset] [(.int (1 : Int32))])) _
        refine XS.goto X10.here hx rfl (pc0 := 41) (pc' := 45) rfl (hb hby at_41) (by decide) (by decide) ?_
        show Steps p.tables e below (T10.setTop (mkF m 45 #[.val (.int p1), .val (.int p2), .val (.int ba), .val (.int bb), .val (.ref wW), .val (.ref wR), .val (.int (0 : Int32)), .unset] [(.int (1 : Int32))])) _
        refine XS.istore X10.here hx rfl (hb hby at_45) rfl (l' := #[.val (.int p1), .val (.int p2), .val (.int ba), .val (.int bb), .val (.ref wW), .val (.ref wR), .val (.int (0 : Int32)), .val (.int (1 : Int32))]) rfl ?_
        show Steps p.tables e below (T10.setTop (mkF m 47 #[.val (.int p1), .val (.int p2), .val (.int ba), .val (.int bb), .val (.ref wW), .val (.ref wR), .val (.int (0 : Int32)), .val (.int (1 : Int32))] [])) _
        refine XS.aload X10.here hx rfl (hb hby at_47) rfl rfl ?_
        show Steps p.tables e below (T10.setTop (mkF m 49 #[.val (.int p1), .val (.int p2), .val (.int ba), .val (.int bb), .val (.ref wW), .val (.ref wR), .val (.int (0 : Int32)), .val (.int (1 : Int32))] [(.ref wW)])) _
        refine XS.aload X10.here hx rfl (hb hby at_49) rfl rfl ?_
        show Steps p.tables e below (T10.setTop (mkF m 51 #[.val (.int p1), .val (.int p2), .val (.int ba), .val (.int bb), .val (.ref wW), .val (.ref wR), .val (.int (0 : Int32)), .val (.int (1 : Int32))] [(.ref wR), (.ref wW)])) _
        exact k
      -- pc 51: com/example/lockline/lockline/Contender$Kind.excludes
      obtain ⟨cq11, kq11, q11a, q11b, q11c⟩ := isOf hZ Kq10 (E_W.ext O.2)
      obtain ⟨_, _, ⟨T11, L11, k11, n11⟩, -, X11, ⟨Lc11, hQ11, l11, y11, z11⟩, st11⟩ := X10.virtualBack hx (y := (⟨"com/example/lockline/lockline/Contender$Kind", "excludes", "(Lcom/example/lockline/lockline/Contender$Kind;)Z"⟩ : MethodName)) (z := (⟨"com/example/lockline/lockline/Contender$Kind", "excludes", "(Lcom/example/lockline/lockline/Contender$Kind;)Z"⟩ : MethodName)) hown (mvT hZ (hw _ (List.mem_of_getElem? (i := 9) rfl))) (mvT hZ (hw _ (List.mem_of_getElem? (i := 10) rfl))) (notFace_of_selects (args := #[]) (mvT hZ (hw _ (List.mem_of_getElem? (i := 12) rfl)))) (mvT hZ (hw _ (List.mem_of_getElem? (i := 12) rfl))) (mvT hZ (hw _ (List.mem_of_getElem? (i := 11) rfl))) (by decide) (backOf (W := 0) (rmE1 l Z a0 hw [] wR wW wR h0 n0 O S_R S_W) hZ (hw _ (List.mem_of_getElem? (i := 13) rfl)) (hw _ (List.mem_of_getElem? (i := 5) rfl)) (by decide) (by decide)) q11a q11c (g := (mkF m 51 #[.val (.int p1), .val (.int p2), .val (.int ba), .val (.int bb), .val (.ref wW), .val (.ref wR), .val (.int (0 : Int32)), .val (.int (1 : Int32))] [(.ref wR), (.ref wW)])) rfl (by rw [hml]; rfl) (Steps.refl _) (argsL := [(.ref wR)]) (rest := []) (lenOf pd_1 rfl) rfl (by show 2 * 0 + _ ≤ _; exact Nat.le_of_eq rfl) (hb hby at_51) (fun _ hWm => ⟨rfl, Kq10, (by decide : 0 + 0 ≤ _), (by decide : 0 + 0 ≤ _)⟩)
      dsimp only [Pt.U, Pt.locs, Pt.cells, Pt.slots] at X11 l11 y11 z11 st11 hQ11
      subst l11 y11 z11
      obtain ⟨rfl, Nq11, Kq11⟩ := hQ11
      replace N := Fr.app N Nq11
      refine own_go (B := T11.setTop (mkF m 54 #[.val (.int p1), .val (.int p2), .val (.int ba), .val (.int bb), .val (.ref wW), .val (.ref wR), .val (.int (0 : Int32)), .val (.int (1 : Int32))] [(.int (1 : Int32))])) (fun t k => st11.trans k) ?_
      refine own_go (B := T11.setTop (mkF m 64 #[.val (.int p1), .val (.int p2), .val (.int ba), .val (.int bb), .val (.ref wW), .val (.ref wR), .val (.int (0 : Int32)), .val (.int (1 : Int32))] [(.int (1 : Int32))])) (fun t k => ?_) ?_
      · show Steps p.tables e below (T11.setTop (mkF m 54 #[.val (.int p1), .val (.int p2), .val (.int ba), .val (.int bb), .val (.ref wW), .val (.ref wR), .val (.int (0 : Int32)), .val (.int (1 : Int32))] [(.int (1 : Int32))])) _
        refine XS.iload X11.here hx rfl (hb hby at_54) rfl ?_
        show Steps p.tables e below (T11.setTop (mkF m 56 #[.val (.int p1), .val (.int p2), .val (.int ba), .val (.int bb), .val (.ref wW), .val (.ref wR), .val (.int (0 : Int32)), .val (.int (1 : Int32))] [(.int (1 : Int32)), (.int (1 : Int32))])) _
        refine XS.icmpNo X11.here hx rfl (hb hby at_56) rfl (teq rfl).2 ?_
        show Steps p.tables e below (T11.setTop (mkF m 59 #[.val (.int p1), .val (.int p2), .val (.int ba), .val (.int bb), .val (.ref wW), .val (.ref wR), .val (.int (0 : Int32)), .val (.int (1 : Int32))] [])) _
        refine XS.iconst X11.here hx rfl (hb hby at_59) ?_
        show Steps p.tables e below (T11.setTop (mkF m 60 #[.val (.int p1), .val (.int p2), .val (.int ba), .val (.int bb), .val (.ref wW), .val (.ref wR), .val (.int (0 : Int32)), .val (.int (1 : Int32))] [(.int (1 : Int32))])) _
        refine XS.goto X11.here hx rfl (pc0 := 60) (pc' := 64) rfl (hb hby at_60) (by decide) (by decide) ?_
        show Steps p.tables e below (T11.setTop (mkF m 64 #[.val (.int p1), .val (.int p2), .val (.int ba), .val (.int bb), .val (.ref wW), .val (.ref wR), .val (.int (0 : Int32)), .val (.int (1 : Int32))] [(.int (1 : Int32))])) _
        exact k
      obtain ⟨fs, hr, hrun, hended, hW, hsame⟩ := X11.leave (v := some (.int (1 : Int32))) (fun h => by rw [Bd.returns] at h; cases h)
      refine ⟨_, _, retN X11 hx (t := .boolean) Bd.returns (by simp) (hb hby at_64) hr, hfin _ _ ⟨hrun, hended, _, _, rfl, ?_, ⟨_, rfl⟩, hW, hsame.mono (by decide) (by decide)⟩⟩
      show Q0 Z p1 p2 wR wW h0 n0 _ T11.heap _
      rw [Kq11]
      exact ⟨rfl, N⟩
    · refine own_go (B := s₁.setTop (mkF m 9 #[.val (.int p1), .val (.int p2), .val (.int ba), .val (.int bb), .unset, .unset, .unset, .unset] [(.int ba)])) (fun t k => ?_) ?_
      · show Steps p.tables e below (s₁.setTop (mkF m 8 #[.val (.int p1), .val (.int p2), .val (.int ba), .val (.int bb), .unset, .unset, .unset, .unset] [])) _
        refine XS.iloadN X0.here hx rfl (hb hby at_8) rfl ?_
        show Steps p.tables e below (s₁.setTop (mkF m 9 #[.val (.int p1), .val (.int p2), .val (.int ba), .val (.int bb), .unset, .unset, .unset, .unset] [(.int ba)])) _
        exact k
      -- pc 9: com/example/lockline/lockline/KindExcludesPinLaw.kindOf
      obtain ⟨_, _, ⟨T13, L13, k13, n13⟩, -, X13, ⟨Lc13, hQ13, l13, y13, z13⟩, st13⟩ := Jvm.LawKit.callS X0 hx (y := (⟨"com/example/lockline/lockline/KindExcludesPinLaw", "kindOf", "(I)Lcom/example/lockline/lockline/Contender$Kind;"⟩ : MethodName)) hown (mvT hZ (hw _ (List.mem_of_getElem? (i := 0) rfl))) (mvT hZ (hw _ (List.mem_of_getElem? (i := 1) rfl))) (mvT hZ (hw _ (List.mem_of_getElem? (i := 2) rfl))) (mvT hZ (hw _ (List.mem_of_getElem? (i := 3) rfl))) (by decide) (backOf (W := 0) (rmK1 l Z a0 hw [] ba wR wW h0 n0 O S_R S_W ka) hZ (hw _ (List.mem_of_getElem? (i := 3) rfl)) (hw _ (List.mem_of_getElem? (i := 2) rfl)) (by decide) (by decide)) (g := (mkF m 9 #[.val (.int p1), .val (.int p2), .val (.int ba), .val (.int bb), .unset, .unset, .unset, .unset] [(.int ba)])) rfl (by rw [hml]; rfl) (argsL := [(.int ba)]) (rest := []) (lenOf pd_0 rfl) rfl (by show 2 * 0 + _ ≤ _; exact Nat.le_of_eq rfl) (hb hby at_9) (fun _ hWm => ⟨rfl, e0, (by decide : 0 + 0 ≤ _), (by decide : 0 + 0 ≤ _)⟩)
      dsimp only [Pt.U, Pt.locs, Pt.cells, Pt.slots] at X13 l13 y13 z13 st13 hQ13
      subst l13 y13 z13
      obtain ⟨rfl, Nq13, Kq13⟩ := hQ13
      replace N := Fr.app N Nq13
      refine own_go (B := T13.setTop (mkF m 12 #[.val (.int p1), .val (.int p2), .val (.int ba), .val (.int bb), .unset, .unset, .unset, .unset] [(.ref wW)])) st13 ?_
      refine own_go (B := T13.setTop (mkF m 15 #[.val (.int p1), .val (.int p2), .val (.int ba), .val (.int bb), .val (.ref wW), .unset, .unset, .unset] [(.int bb)])) (fun t k => ?_) ?_
      · show Steps p.tables e below (T13.setTop (mkF m 12 #[.val (.int p1), .val (.int p2), .val (.int ba), .val (.int bb), .unset, .unset, .unset, .unset] [(.ref wW)])) _
        refine XS.astore X13.here hx rfl (hb hby at_12) rfl rfl (l' := #[.val (.int p1), .val (.int p2), .val (.int ba), .val (.int bb), .val (.ref wW), .unset, .unset, .unset]) rfl ?_
        show Steps p.tables e below (T13.setTop (mkF m 14 #[.val (.int p1), .val (.int p2), .val (.int ba), .val (.int bb), .val (.ref wW), .unset, .unset, .unset] [])) _
        refine XS.iloadN X13.here hx rfl (hb hby at_14) rfl ?_
        show Steps p.tables e below (T13.setTop (mkF m 15 #[.val (.int p1), .val (.int p2), .val (.int ba), .val (.int bb), .val (.ref wW), .unset, .unset, .unset] [(.int bb)])) _
        exact k
      -- pc 15: com/example/lockline/lockline/KindExcludesPinLaw.kindOf
      obtain ⟨_, _, ⟨T14, L14, k14, n14⟩, -, X14, ⟨Lc14, hQ14, l14, y14, z14⟩, st14⟩ := Jvm.LawKit.callS X13 hx (y := (⟨"com/example/lockline/lockline/KindExcludesPinLaw", "kindOf", "(I)Lcom/example/lockline/lockline/Contender$Kind;"⟩ : MethodName)) hown (mvT hZ (hw _ (List.mem_of_getElem? (i := 0) rfl))) (mvT hZ (hw _ (List.mem_of_getElem? (i := 1) rfl))) (mvT hZ (hw _ (List.mem_of_getElem? (i := 2) rfl))) (mvT hZ (hw _ (List.mem_of_getElem? (i := 3) rfl))) (by decide) (backOf (W := 0) (rmK1 l Z a0 hw [] bb wR wW h0 n0 O S_R S_W kb) hZ (hw _ (List.mem_of_getElem? (i := 3) rfl)) (hw _ (List.mem_of_getElem? (i := 2) rfl)) (by decide) (by decide)) (g := (mkF m 15 #[.val (.int p1), .val (.int p2), .val (.int ba), .val (.int bb), .val (.ref wW), .unset, .unset, .unset] [(.int bb)])) rfl (by rw [hml]; rfl) (argsL := [(.int bb)]) (rest := []) (lenOf pd_0 rfl) rfl (by show 2 * 0 + _ ≤ _; exact Nat.le_of_eq rfl) (hb hby at_15) (fun _ hWm => ⟨rfl, Kq13, (by decide : 0 + 0 ≤ _), (by decide : 0 + 0 ≤ _)⟩)
      dsimp only [Pt.U, Pt.locs, Pt.cells, Pt.slots] at X14 l14 y14 z14 st14 hQ14
      subst l14 y14 z14
      obtain ⟨rfl, Nq14, Kq14⟩ := hQ14
      replace N := Fr.app N Nq14
      refine own_go (B := T14.setTop (mkF m 18 #[.val (.int p1), .val (.int p2), .val (.int ba), .val (.int bb), .val (.ref wW), .unset, .unset, .unset] [(.ref wW)])) st14 ?_
      refine own_go (B := T14.setTop (mkF m 51 #[.val (.int p1), .val (.int p2), .val (.int ba), .val (.int bb), .val (.ref wW), .val (.ref wW), .val (.int (0 : Int32)), .val (.int (1 : Int32))] [(.ref wW), (.ref wW)])) (fun t k => ?_) ?_
      · show Steps p.tables e below (T14.setTop (mkF m 18 #[.val (.int p1), .val (.int p2), .val (.int ba), .val (.int bb), .val (.ref wW), .unset, .unset, .unset] [(.ref wW)])) _
        refine XS.astore X14.here hx rfl (hb hby at_18) rfl rfl (l' := #[.val (.int p1), .val (.int p2), .val (.int ba), .val (.int bb), .val (.ref wW), .val (.ref wW), .unset, .unset]) rfl ?_
        show Steps p.tables e below (T14.setTop (mkF m 20 #[.val (.int p1), .val (.int p2), .val (.int ba), .val (.int bb), .val (.ref wW), .val (.ref wW), .unset, .unset] [])) _
        refine XS.iloadN X14.here hx rfl (hb hby at_20) rfl ?_
        show Steps p.tables e below (T14.setTop (mkF m 21 #[.val (.int p1), .val (.int p2), .val (.int ba), .val (.int bb), .val (.ref wW), .val (.ref wW), .unset, .unset] [(.int ba)])) _
        refine XS.ifYes X14.here hx rfl (pc0 := 21) (pc' := 32) rfl (hb hby at_21) rfl ((if0 _ _).trans (feq ka).2) (by decide) (by decide) ?_
        show Steps p.tables e below (T14.setTop (mkF m 32 #[.val (.int p1), .val (.int p2), .val (.int ba), .val (.int bb), .val (.ref wW), .val (.ref wW), .unset, .unset] [])) _
        refine XS.iconst X14.here hx rfl (hb hby at_32) ?_
        show Steps p.tables e below (T14.setTop (mkF m 33 #[.val (.int p1), .val (.int p2), .val (.int ba), .val (.int bb), .val (.ref wW), .val (.ref wW), .unset, .unset] [(.int (0 : Int32))])) _
        refine XS.istore X14.here hx rfl (hb hby at_33) rfl (l' := #[.val (.int p1), .val (.int p2), .val (.int ba), .val (.int bb), .val (.ref wW), .val (.ref wW), .val (.int (0 : Int32)), .unset]) rfl ?_
        show Steps p.tables e below (T14.setTop (mkF m 35 #[.val (.int p1), .val (.int p2), .val (.int ba), .val (.int bb), .val (.ref wW), .val (.ref wW), .val (.int (0 : Int32)), .unset] [])) _
        refine XS.iload X14.here hx rfl (hb hby at_35) rfl ?_
        show Steps p.tables e below (T14.setTop (mkF m 37 #[.val (.int p1), .val (.int p2), .val (.int ba), .val (.int bb), .val (.ref wW), .val (.ref wW), .val (.int (0 : Int32)), .unset] [(.int (0 : Int32))])) _
        refine XS.ifNo X14.here hx rfl (hb hby at_37) rfl ((if0 _ _).trans (teq (by decide)).2) ?_
        show Steps p.tables e below (T14.setTop (mkF m 40 #[.val (.int p1), .val (.int p2), .val (.int ba), .val (.int bb), .val (.ref wW), .val (.ref wW), .val (.int (0 : Int32)), .unset] [])) _
        refine XS.iconst X14.here hx rfl (hb hby at_40) ?_
        show Steps p.tables e below (T14.setTop (mkF m 41 #[.val (.int p1), .val (.int p2), .val (.int ba), .val (.int bb), .val (.ref wW), .val (.ref wW), .val (.int (0 : Int32)), .unset] [(.int (1 : Int32))])) _
        refine XS.goto X14.here hx rfl (pc0 := 41) (pc' := 45) rfl (hb hby at_41) (by decide) (by decide) ?_
        show Steps p.tables e below (T14.setTop (mkF m 45 #[.val (.int p1), .val (.int p2), .val (.int ba), .val (.int bb), .val (.ref wW), .val (.ref wW), .val (.int (0 : Int32)), .unset] [(.int (1 : Int32))])) _
        refine XS.istore X14.here hx rfl (hb hby at_45) rfl (l' := #[.val (.int p1), .val (.int p2), .val (.int ba), .val (.int bb), .val (.ref wW), .val (.ref wW), .val (.int (0 : Int32)), .val (.int (1 : Int32))]) rfl ?_
        show Steps p.tables e below (T14.setTop (mkF m 47 #[.val (.int p1), .val (.int p2), .val (.int ba), .val (.int bb), .val (.ref wW), .val (.ref wW), .val (.int (0 : Int32)), .val (.int (1 : Int32))] [])) _
        refine XS.aload X14.here hx rfl (hb hby at_47) rfl rfl ?_
        show Steps p.tables e below (T14.setTop (mkF m 49 #[.val (.int p1), .val (.int p2), .val (.int ba), .val (.int bb), .val (.ref wW), .val (.ref wW), .val (.int (0 : Int32)), .val (.int (1 : Int32))] [(.ref wW)])) _
        refine XS.aload X14.here hx rfl (hb hby at_49) rfl rfl ?_
        show Steps p.tables e below (T14.setTop (mkF m 51 #[.val (.int p1), .val (.int p2), .val (.int ba), .val (.int bb), .val (.ref wW), .val (.ref wW), .val (.int (0 : Int32)), .val (.int (1 : Int32))] [(.ref wW), (.ref wW)])) _
        exact k
      -- pc 51: com/example/lockline/lockline/Contender$Kind.excludes
      obtain ⟨cq15, kq15, q15a, q15b, q15c⟩ := isOf hZ Kq14 (E_W.ext O.2)
      obtain ⟨_, _, ⟨T15, L15, k15, n15⟩, -, X15, ⟨Lc15, hQ15, l15, y15, z15⟩, st15⟩ := X14.virtualBack hx (y := (⟨"com/example/lockline/lockline/Contender$Kind", "excludes", "(Lcom/example/lockline/lockline/Contender$Kind;)Z"⟩ : MethodName)) (z := (⟨"com/example/lockline/lockline/Contender$Kind", "excludes", "(Lcom/example/lockline/lockline/Contender$Kind;)Z"⟩ : MethodName)) hown (mvT hZ (hw _ (List.mem_of_getElem? (i := 9) rfl))) (mvT hZ (hw _ (List.mem_of_getElem? (i := 10) rfl))) (notFace_of_selects (args := #[]) (mvT hZ (hw _ (List.mem_of_getElem? (i := 12) rfl)))) (mvT hZ (hw _ (List.mem_of_getElem? (i := 12) rfl))) (mvT hZ (hw _ (List.mem_of_getElem? (i := 11) rfl))) (by decide) (backOf (W := 0) (rmE1 l Z a0 hw [] wR wW wW h0 n0 O S_R S_W) hZ (hw _ (List.mem_of_getElem? (i := 13) rfl)) (hw _ (List.mem_of_getElem? (i := 5) rfl)) (by decide) (by decide)) q15a q15c (g := (mkF m 51 #[.val (.int p1), .val (.int p2), .val (.int ba), .val (.int bb), .val (.ref wW), .val (.ref wW), .val (.int (0 : Int32)), .val (.int (1 : Int32))] [(.ref wW), (.ref wW)])) rfl (by rw [hml]; rfl) (Steps.refl _) (argsL := [(.ref wW)]) (rest := []) (lenOf pd_1 rfl) rfl (by show 2 * 0 + _ ≤ _; exact Nat.le_of_eq rfl) (hb hby at_51) (fun _ hWm => ⟨rfl, Kq14, (by decide : 0 + 0 ≤ _), (by decide : 0 + 0 ≤ _)⟩)
      dsimp only [Pt.U, Pt.locs, Pt.cells, Pt.slots] at X15 l15 y15 z15 st15 hQ15
      subst l15 y15 z15
      obtain ⟨rfl, Nq15, Kq15⟩ := hQ15
      replace N := Fr.app N Nq15
      refine own_go (B := T15.setTop (mkF m 54 #[.val (.int p1), .val (.int p2), .val (.int ba), .val (.int bb), .val (.ref wW), .val (.ref wW), .val (.int (0 : Int32)), .val (.int (1 : Int32))] [(.int (1 : Int32))])) (fun t k => st15.trans k) ?_
      refine own_go (B := T15.setTop (mkF m 64 #[.val (.int p1), .val (.int p2), .val (.int ba), .val (.int bb), .val (.ref wW), .val (.ref wW), .val (.int (0 : Int32)), .val (.int (1 : Int32))] [(.int (1 : Int32))])) (fun t k => ?_) ?_
      · show Steps p.tables e below (T15.setTop (mkF m 54 #[.val (.int p1), .val (.int p2), .val (.int ba), .val (.int bb), .val (.ref wW), .val (.ref wW), .val (.int (0 : Int32)), .val (.int (1 : Int32))] [(.int (1 : Int32))])) _
        refine XS.iload X15.here hx rfl (hb hby at_54) rfl ?_
        show Steps p.tables e below (T15.setTop (mkF m 56 #[.val (.int p1), .val (.int p2), .val (.int ba), .val (.int bb), .val (.ref wW), .val (.ref wW), .val (.int (0 : Int32)), .val (.int (1 : Int32))] [(.int (1 : Int32)), (.int (1 : Int32))])) _
        refine XS.icmpNo X15.here hx rfl (hb hby at_56) rfl (teq rfl).2 ?_
        show Steps p.tables e below (T15.setTop (mkF m 59 #[.val (.int p1), .val (.int p2), .val (.int ba), .val (.int bb), .val (.ref wW), .val (.ref wW), .val (.int (0 : Int32)), .val (.int (1 : Int32))] [])) _
        refine XS.iconst X15.here hx rfl (hb hby at_59) ?_
        show Steps p.tables e below (T15.setTop (mkF m 60 #[.val (.int p1), .val (.int p2), .val (.int ba), .val (.int bb), .val (.ref wW), .val (.ref wW), .val (.int (0 : Int32)), .val (.int (1 : Int32))] [(.int (1 : Int32))])) _
        refine XS.goto X15.here hx rfl (pc0 := 60) (pc' := 64) rfl (hb hby at_60) (by decide) (by decide) ?_
        show Steps p.tables e below (T15.setTop (mkF m 64 #[.val (.int p1), .val (.int p2), .val (.int ba), .val (.int bb), .val (.ref wW), .val (.ref wW), .val (.int (0 : Int32)), .val (.int (1 : Int32))] [(.int (1 : Int32))])) _
        exact k
      obtain ⟨fs, hr, hrun, hended, hW, hsame⟩ := X15.leave (v := some (.int (1 : Int32))) (fun h => by rw [Bd.returns] at h; cases h)
      refine ⟨_, _, retN X15 hx (t := .boolean) Bd.returns (by simp) (hb hby at_64) hr, hfin _ _ ⟨hrun, hended, _, _, rfl, ?_, ⟨_, rfl⟩, hW, hsame.mono (by decide) (by decide)⟩⟩
      show Q0 Z p1 p2 wR wW h0 n0 _ T15.heap _
      rw [Kq15]
      exact ⟨rfl, N⟩
set_option maxRecDepth 65536 in
set_option maxHeartbeats 40000000 in
theorem comes_1 {Post : Tables → Env → Array Value → State → Outcome → State → Prop} (hpost : ∀ tb e args s v u, (limb_1_1.after args s (.returned v) u = true ∧ limb_1_2.after args s (.returned v) u = true ∧ True) → FrameEnd s (.returned v) u (Jvm.fieldLocs frame_1_writes args s ++ Jvm.arrayLocs frame_1_arrays args s ++ Jvm.staticLocs frame_1_statics s) 0 0 → Post tb e args s (.returned v) u) :
    ArmFor flags0 classFile x code maxLocals ret World_1 tables_1 room_1 Calls_1 rest_1 Pre_1 Post := by
  intro l hfl _ _ p e ha hc hk s m args below hf hA hF happ hP
  obtain ⟨hcalls, hrest, hpre⟩ := hP
  obtain ⟨-, -, -, hnamed, -, -, -, hat⟩ := (Spec.applies_iff hf).mp happ
  obtain ⟨hg, hn⟩ := and_e (Cond.before_iff.mp (show (Jvm.Cond.and given_1 narrow_1).before args s = true from hpre))
  obtain ⟨gc, gr0⟩ := and_e hg
  obtain ⟨gi0, gr1⟩ := and_e gr0
  have gi1 := gr1
  obtain ⟨w0, w1, rfl⟩ : ∃ w0 w1 : Value, args = #[w0, w1] := by
    have hs : args.size = 2 := by simpa [Cond.value, given_1] using gc
    obtain ⟨L⟩ := args
    match L, hs with
    | [w0, w1], _ => exact ⟨w0, w1, rfl⟩
  have hw := fun d (hd : d ∈ tables_1) => atoms_spec (ws := Jvm.Cond.code x code maxLocals ret :: tables_1) hat d (List.mem_cons_of_mem _ hd)
  have hfit : Fit s := fun {y c} hc i hi => by
    obtain ⟨ha, rfl⟩ := Array.getElem?_eq_some_iff.mp hc
    have q := List.all_eq_true.mp ((Array.all_eq_true_iff_forall_mem.mp hF) _ (Array.getElem_mem ha)) i (List.mem_range.mpr hi)
    simpa [Array.getElem?_eq_getElem hi] using q
  obtain ⟨i0, ei0⟩ := is_v gi0
  obtain rfl : w0 = (.int i0) := Option.some.inj ei0
  obtain ⟨i1, ei1⟩ := is_v gi1
  obtain rfl : w1 = (.int i1) := Option.some.inj ei1
  obtain ⟨n1, n2⟩ := and_e hn
  obtain ⟨n2, n3⟩ := and_e n2
  obtain ⟨n3, n4⟩ := and_e n3
  obtain ⟨wR, evR⟩ := exa_v n1
  have S_R := Sta.start evR (Or.inr ⟨(hw _ (List.mem_of_getElem? (i := 5) rfl)), (hw _ (List.mem_of_getElem? (i := 6) rfl))⟩)
  have E_R := Exa.start evR n1
  obtain ⟨wW, evW⟩ := exa_v n2
  have S_W := Sta.start evW (Or.inr ⟨(hw _ (List.mem_of_getElem? (i := 5) rfl)), (hw _ (List.mem_of_getElem? (i := 8) rfl))⟩)
  have E_W := Exa.start evW n2
  have F_R := Fld.start ((fld_at evR).symm.trans (eqv_i (Term.int_eval 0) n3))
  have F_W := Fld.start ((fld_at evW).symm.trans (eqv_i (Term.int_eval 1) n4))
  have hne : wR ≠ wW := Fld.ne F_R F_W (by decide)
  obtain ⟨n, o, h1, h2, h3, _, L, rfl, ⟨rfl, N⟩, hq⟩ := rm0 l s _ hw tables_1 i0 i1 wR wW s.heap s.heap.size (Old.start s) S_R S_W E_R E_W hne p e ha hc hk s m _ below hf ((Spec.applies_iff_loose hf).mp happ).1 ⟨rfl, State.Warmed39.refl s, rfl⟩ trivial
  refine ⟨n, _, h1, h2, h3, hpost _ _ _ _ _ _ ⟨Cond.after_iff.mpr rfl, Cond.after_iff.mpr (eq_i res_at (Term.int_eval (1)) rfl), trivial⟩ ⟨hq.1, hq.2.1, (hq.2.2.sift fun y hy => Or.inr (N y hy)).mono (by decide) (by decide)⟩⟩
theorem main_1_1 : Claimed_1_1 := comes_1 fun _ _ _ _ _ _ h hF => ⟨h.1, hF⟩
theorem main_1_2 : Claimed_1_2 := comes_1 fun _ _ _ _ _ _ h hF => ⟨h.2.1, hF⟩
end Jvm.Pilot.@@N@@
namespace Jvm.Pilot.@@N@@
open Jvm Jvm.ClassFile Sem Op Lib Jvm.Free Jvm.Stand Jvm.Pilot.@@N@@.Jvm.D
/-! MADE BY PROGRAM (witnessworld.py) out of the Statement's table words and the real class files: 12 classes; the members and pool entries that the words name. The judged class is class 1, her method 2. -/
namespace start1
open Jvm.ClassFile
def u (s : String) : CpInfo := .utf8 (stringToUtf16 s)
/-- a pool by its gaps: so many unusable entries, then the entry; so many at the end -/
def gap : Nat → List CpInfo → List CpInfo
  | 0, r => r
  | n + 1, r => .unusable :: gap n r
def poolList (es : List (Nat × CpInfo)) (last : Nat) : List CpInfo := es.foldr (fun e r => gap e.1 (e.2 :: r)) (gap last [])
def pool (es : List (Nat × CpInfo)) (last : Nat) : Array CpInfo := ⟨poolList es last⟩
def fileOf (pool : Array CpInfo) (this : Nat) (attrs : Array Attribute := #[]) (ms : Array MethodInfo := #[]) (fl : Nat := 33) (sup : Nat := 0) (ifs : Array Nat := #[]) (fds : Array FieldInfo := #[]) : ClassFile where
  minorVersion := 0
  majorVersion := 65
  constantPool := pool
  accessFlags := fl
  thisClass := this
  superClass := sup
  interfaces := ifs
  fields := fds
  methods := ms
  attributes := attrs
def plain (name : String) (sup : Option ClassId) : Class where
  name := name
  kind := .ordinary
  loader := none
  accessFlags := 33
  super := sup
  interfaces := #[]
  cf := none
  fields := #[]
  methods := #[]
  instanceTypes := #[]
  staticTypes := #[]
  resolved := #[]
  callSites := []
  init := .initialized
  statics := none
  mirror := none

def pool0 : Array CpInfo := pool [(5, u "<init>"), (0, u "()V"), (1, .class_ 10), (1, u "java/lang/Object")] 113

def k0m0 : Method := { name := "<init>", desc := "()V", sig := { parameters := [], returnType := none }, accessFlags := 1, code := none }
/-- java/lang/Object -/
def k0 : Class := { plain "java/lang/Object" none with
  accessFlags := 33
  interfaces := #[]
  cf := some (fileOf pool0 8 #[] #[{ accessFlags := 1, nameIndex := 5, descriptorIndex := 6, attributes := #[] }] 33 0 #[] #[])
  fields := #[]
  methods := #[k0m0]
  instanceTypes := #[]
  staticTypes := #[]
  resolved := Array.replicate 124 none
  statics := none }

def pool1 : Array CpInfo := pool [(2, .class_ 4), (1, u "java/lang/Object"), (0, u "<init>"), (0, u "()V"), (0, .fieldref 8 9), (0, .class_ 10), (0, .nameAndType 11 12), (0, u "com/example/lockline/lockline/Contender$Kind"), (0, u "READ"), (0, u "Lcom/example/lockline/lockline/Contender$Kind;"), (0, .fieldref 8 14), (0, .nameAndType 15 12), (0, u "WRITE"), (0, .methodref 17 18), (0, .class_ 19), (0, .nameAndType 20 21), (0, u "com/example/lockline/lockline/KindExcludesPinLaw"), (0, u "kindOf"), (0, u "(I)Lcom/example/lockline/lockline/Contender$Kind;"), (0, .methodref 8 23), (0, .nameAndType 24 25), (0, u "excludes"), (0, u "(Lcom/example/lockline/lockline/Contender$Kind;)Z"), (3, u "law"), (0, u "(II)Z")] 6

def k1m0 : Method := { name := "<init>", desc := "()V", sig := { parameters := [], returnType := none }, accessFlags := 2, code := none }
def k1c1 : Code := { maxStack := 1, maxLocals := 1, code := method_2_code, exceptionTable := #[], attributes := #[] }
def k1m1 : Method := { name := "kindOf", desc := "(I)Lcom/example/lockline/lockline/Contender$Kind;", sig := { parameters := [.int], returnType := some (.object "com/example/lockline/lockline/Contender$Kind") }, accessFlags := 10, code := some k1c1 }
def k1c2 : Code := { maxStack := 2, maxLocals := 8, code := code, exceptionTable := #[], attributes := #[] }
def k1m2 : Method := { name := "law", desc := "(II)Z", sig := { parameters := [.int, .int], returnType := some .boolean }, accessFlags := 9, code := some k1c2 }
/-- com/example/lockline/lockline/KindExcludesPinLaw -/
def k1 : Class := { plain "com/example/lockline/lockline/KindExcludesPinLaw" (some 0) with
  accessFlags := 49
  interfaces := #[]
  cf := some (fileOf pool1 17 #[] #[{ accessFlags := 2, nameIndex := 5, descriptorIndex := 6, attributes := #[] }, { accessFlags := 10, nameIndex := 20, descriptorIndex := 21, attributes := #[] }, { accessFlags := 9, nameIndex := 29, descriptorIndex := 30, attributes := #[] }] 49 2 #[] #[])
  fields := #[]
  methods := #[k1m0, k1m1, k1m2]
  instanceTypes := #[]
  staticTypes := #[]
  resolved := Array.replicate 37 none
  statics := none }

def pool2 : Array CpInfo := pool [(1, .class_ 2), (0, u "java/lang/constant/Constable"), (0, .class_ 4), (0, u "java/lang/Object")] 6

/-- java/lang/constant/Constable -/
def k2 : Class := { plain "java/lang/constant/Constable" (some 0) with
  accessFlags := 1537
  interfaces := #[]
  cf := some (fileOf pool2 1 #[] #[] 1537 3 #[] #[])
  fields := #[]
  methods := #[]
  instanceTypes := #[]
  staticTypes := #[]
  resolved := Array.replicate 11 none
  statics := none }

def pool3 : Array CpInfo := pool [(1, .class_ 2), (0, u "java/lang/Comparable"), (0, .class_ 4), (0, u "java/lang/Object")] 7

/-- java/lang/Comparable -/
def k3 : Class := { plain "java/lang/Comparable" (some 0) with
  accessFlags := 1537
  interfaces := #[]
  cf := some (fileOf pool3 1 #[] #[] 1537 3 #[] #[])
  fields := #[]
  methods := #[]
  instanceTypes := #[]
  staticTypes := #[]
  resolved := Array.replicate 12 none
  statics := none }

def pool4 : Array CpInfo := pool [(1, .class_ 2), (0, u "java/io/Serializable"), (0, .class_ 4), (0, u "java/lang/Object")] 2

/-- java/io/Serializable -/
def k4 : Class := { plain "java/io/Serializable" (some 0) with
  accessFlags := 1537
  interfaces := #[]
  cf := some (fileOf pool4 1 #[] #[] 1537 3 #[] #[])
  fields := #[]
  methods := #[]
  instanceTypes := #[]
  staticTypes := #[]
  resolved := Array.replicate 7 none
  statics := none }

def pool5 : Array CpInfo := pool [(2, .class_ 4), (1, u "java/lang/Enum"), (0, u "name"), (0, u "Ljava/lang/String;"), (2, u "ordinal"), (0, u "I"), (1, .class_ 14), (1, u "java/lang/Object"), (4, u "hash"), (86, .class_ 108), (1, u "java/lang/Enum$EnumDesc"), (2, .class_ 112), (0, u "java/lang/constant/Constable"), (0, .class_ 114), (0, u "java/lang/Comparable"), (0, .class_ 116), (0, u "java/io/Serializable")] 87

/-- java/lang/Enum -/
def k5 : Class := { plain "java/lang/Enum" (some 0) with
  accessFlags := 1057
  interfaces := #[2, 3, 4]
  cf := some (fileOf pool5 2 #[.nestMembers #[106]] #[] 1057 12 #[111, 113, 115] #[{ accessFlags := 18, nameIndex := 5, descriptorIndex := 6, attributes := #[] }, { accessFlags := 18, nameIndex := 9, descriptorIndex := 10, attributes := #[] }, { accessFlags := 2, nameIndex := 19, descriptorIndex := 10, attributes := #[] }])
  fields := #[{ name := "name", type := (.object "java/lang/String"), accessFlags := 18, slot := 0, constantValue := 0 }, { name := "ordinal", type := .int, accessFlags := 18, slot := 1, constantValue := 0 }, { name := "hash", type := .int, accessFlags := 2, slot := 2, constantValue := 0 }]
  methods := #[]
  instanceTypes := #[(.object "java/lang/String"), .int, .int]
  staticTypes := #[]
  resolved := Array.replicate 204 none
  statics := none }

def pool6 : Array CpInfo := pool [(1, .class_ 2), (0, u "com/example/lockline/lockline/Contender$Kind"), (2, u "READ"), (0, u "Lcom/example/lockline/lockline/Contender$Kind;"), (0, .fieldref 1 8), (0, .nameAndType 9 6), (0, u "WRITE"), (2, u "$VALUES"), (0, u "[Lcom/example/lockline/lockline/Contender$Kind;"), (6, .class_ 22), (1, u "java/lang/Enum"), (60, u "excludes"), (0, u "(Lcom/example/lockline/lockline/Contender$Kind;)Z"), (9, .class_ 95), (0, u "com/example/lockline/lockline/Contender")] 16

def k6c0 : Code := { maxStack := 2, maxLocals := 2, code := prog_2_method_5_code, exceptionTable := #[], attributes := #[] }
def k6m0 : Method := { name := "excludes", desc := "(Lcom/example/lockline/lockline/Contender$Kind;)Z", sig := { parameters := [(.object "com/example/lockline/lockline/Contender$Kind")], returnType := some .boolean }, accessFlags := 0, code := some k6c0 }
/-- com/example/lockline/lockline/Contender$Kind -/
def k6 : Class := { plain "com/example/lockline/lockline/Contender$Kind" (some 5) with
  accessFlags := 16432
  interfaces := #[]
  cf := some (fileOf pool6 1 #[.nestHost 94] #[{ accessFlags := 0, nameIndex := 83, descriptorIndex := 84, attributes := #[] }] 16432 20 #[] #[{ accessFlags := 16409, nameIndex := 5, descriptorIndex := 6, attributes := #[] }, { accessFlags := 16409, nameIndex := 9, descriptorIndex := 6, attributes := #[] }, { accessFlags := 4122, nameIndex := 12, descriptorIndex := 13, attributes := #[] }])
  fields := #[{ name := "READ", type := (.object "com/example/lockline/lockline/Contender$Kind"), accessFlags := 16409, slot := 0, constantValue := 0 }, { name := "WRITE", type := (.object "com/example/lockline/lockline/Contender$Kind"), accessFlags := 16409, slot := 1, constantValue := 0 }, { name := "$VALUES", type := (.array (.object "com/example/lockline/lockline/Contender$Kind")), accessFlags := 4122, slot := 2, constantValue := 0 }]
  methods := #[k6m0]
  instanceTypes := #[(.object "java/lang/String"), .int, .int]
  staticTypes := #[(.object "com/example/lockline/lockline/Contender$Kind"), (.object "com/example/lockline/lockline/Contender$Kind"), (.array (.object "com/example/lockline/lockline/Contender$Kind"))]
  resolved := Array.replicate 112 none
  statics := some 0 }

def pool7 : Array CpInfo := pool [(1, u "java/lang/Cloneable"), (0, .class_ 1), (0, u "java/lang/Object"), (0, .class_ 3)] 3

/-- java/lang/Cloneable -/
def k7 : Class := { plain "java/lang/Cloneable" (some 0) with
  accessFlags := 1537
  interfaces := #[]
  cf := some (fileOf pool7 2 #[] #[] 1537 4 #[] #[])
  fields := #[]
  methods := #[]
  instanceTypes := #[]
  staticTypes := #[]
  resolved := Array.replicate 8 none
  statics := none }

/-- the primitive byte -/
def k8 : Class := { plain "byte" none with kind := .primitive 'B', accessFlags := 0x411 }
/-- [B -/
def k9 : Class := { plain "[B" (some 0) with kind := .array 8 .byte, interfaces := #[7, 4], accessFlags := 1041 }

/-- the primitive int -/
def k10 : Class := { plain "int" none with kind := .primitive 'I', accessFlags := 0x411 }
/-- [I -/
def k11 : Class := { plain "[I" (some 0) with kind := .array 10 .int, interfaces := #[7, 4], accessFlags := 1041 }

def heap : Heap := #[{ cls := 6, slots := #[.ref 1, .ref 2, .null], vm := .statics 6 },
  { cls := 6, slots := #[.null, .int 0, .int 0], vm := .none },
  { cls := 6, slots := #[.null, .int 1, .int 0], vm := .none }]
def classes : Array Class := #[k0, k1, k2, k3, k4, k5, k6, k7, k8, k9, k10, k11]
def interned : List (Array UInt16 × Addr) := []
def slotsUsed : Nat := 9
def theMethod : MethodId := ⟨1, 2⟩
def args0 : Array Value := #[.int 5, .int 2]
def aboutOver (below : List Frame) : State where
  vm := { classes := classes, interned := interned.toArray }
  heap := heap
  slotsUsed := slotsUsed
  threads := #[{ frames := .invoking theMethod args0 :: below }]
def below0 : List Frame := [.native { method := ⟨0, 0⟩, args := #[] }]
def about1 : State := aboutOver below0
def p0 : Program := .bare "" "" ""
def e0 : Env := launch0.env 0 0 0
theorem w_frames : about1.frames = Frame.invoking theMethod args0 :: below0 := rfl
set_option maxRecDepth 65536 in
theorem w_args : argsFit about1.vm theMethod args0 = true := by decide +kernel
set_option maxRecDepth 65536 in
theorem w_heap : heapFits about1 = true := by decide +kernel
set_option maxRecDepth 65536 in
theorem w_runnable : about1.curStatus? = some .runnable := by decide +kernel
set_option maxRecDepth 65536 in
theorem w_alone : about1.alone = true := by decide +kernel
set_option maxRecDepth 65536 in
theorem w_named : about1.methodNamed? x = some theMethod := by decide +kernel
set_option maxRecDepth 65536 in
theorem w_hears : about1.hears theMethod below0 = true := by decide +kernel
set_option maxRecDepth 65536 in
theorem w_ripe : about1.ripe theMethod args0 below0 = true := by decide +kernel
theorem w_running : about1.status = .running := rfl
set_option maxRecDepth 65536 in
theorem w_room : about1.hasRoom e0.platform room_1 = true :=
  launch0.hasRoom_least _ room_1 (by decide +kernel) (by decide +kernel) (by decide +kernel) (by decide +kernel) (by decide +kernel) (by decide +kernel)
theorem allAtoms_all (ts : List Jvm.Cond) (a : Array Jvm.Value) (st : Jvm.State) : (allAtoms ts).before a st = ts.all (fun c => c.before a st) := by
  induction ts with
  | nil => rfl
  | cons c t ih =>
    show (Jvm.Cond.and c (allAtoms t)).before a st = _
    rw [Jvm.Cond.before_and, ih, List.all_cons]
def words1 : List Jvm.Cond := Jvm.Cond.code x code maxLocals ret :: tables_1
/-- a 'code' word, met by the world's own term for the bytes: nothing is compared byte by byte -/
theorem code_word {y : MethodName} {bytes : ByteArray} {mx : Nat} {rt : Option FieldType} {a : Array Value} {s : State} {m : MethodId} {meth : Method} {c : Code} (h1 : s.methodNamed? y = some m) (h2 : s.vm.method? m = some meth) (h3 : meth.code = some c) (h4 : c.code = bytes)
    (h5 : (c.maxLocals == mx && c.exceptionTable.isEmpty && decide (c.maxStack ≤ mostOperands) && decide (meth.sig.returnType = rt) && !meth.locks && decide (parseMethodDescriptor y.desc = some meth.sig)) = true) : (Jvm.Cond.code y bytes mx rt).before a s = true := by
  simp only [Bool.and_eq_true, beq_iff_eq, Bool.not_eq_true', decide_eq_true_eq] at h5
  obtain ⟨⟨⟨⟨⟨g1, g2⟩, g3⟩, g4⟩, g5⟩, g6⟩ := h5
  simp [Cond.before, Cond.holds, Cond.value, h1, h2, h3, h4, g1, g2, g3, g4, g5, g6]
def isCode : Jvm.Cond → Bool
  | .code _ _ _ _ => true
  | _ => false
theorem all_split {L : List Jvm.Cond} {P : Jvm.Cond → Bool} (h1 : L.all (fun c => isCode c || P c) = true) (h2 : ∀ c ∈ L.filter isCode, P c = true) : L.all P = true := by
  refine List.all_eq_true.mpr fun c hc => ?_
  have h := List.all_eq_true.mp h1 c hc
  rcases Bool.eq_false_or_eq_true (isCode c) with hi | hi
  · exact h2 c (List.mem_filter.mpr ⟨hc, hi⟩)
  · simpa [hi] using h
set_option maxRecDepth 65536 in
theorem w_c0 : (Jvm.Cond.code x code maxLocals ret).before args0 about1 = true := code_word (m := ⟨1, 2⟩) (meth := k1m2) (c := k1c2) (by decide +kernel) rfl rfl rfl (by decide +kernel)
set_option maxRecDepth 65536 in
theorem w_c1 : (Jvm.Cond.code ({ cls := "com/example/lockline/lockline/KindExcludesPinLaw", name := "kindOf", desc := "(I)Lcom/example/lockline/lockline/Contender$Kind;" } : Jvm.MethodName) method_2_code (1 : Nat) (Option.some (Jvm.ClassFile.FieldType.object "com/example/lockline/lockline/Contender$Kind"))).before args0 about1 = true := code_word (m := ⟨1, 1⟩) (meth := k1m1) (c := k1c1) (by decide +kernel) rfl rfl rfl (by decide +kernel)
set_option maxRecDepth 65536 in
theorem w_c2 : (Jvm.Cond.code ({ cls := "com/example/lockline/lockline/Contender$Kind", name := "excludes", desc := "(Lcom/example/lockline/lockline/Contender$Kind;)Z" } : Jvm.MethodName) prog_2_method_5_code (2 : Nat) (Option.some Jvm.ClassFile.FieldType.boolean)).before args0 about1 = true := code_word (m := ⟨6, 0⟩) (meth := k6m0) (c := k6c0) (by decide +kernel) rfl rfl rfl (by decide +kernel)
def codes1 : List Jvm.Cond := [Jvm.Cond.code x code maxLocals ret, Jvm.Cond.code ({ cls := "com/example/lockline/lockline/KindExcludesPinLaw", name := "kindOf", desc := "(I)Lcom/example/lockline/lockline/Contender$Kind;" } : Jvm.MethodName) method_2_code (1 : Nat) (Option.some (Jvm.ClassFile.FieldType.object "com/example/lockline/lockline/Contender$Kind")), Jvm.Cond.code ({ cls := "com/example/lockline/lockline/Contender$Kind", name := "excludes", desc := "(Lcom/example/lockline/lockline/Contender$Kind;)Z" } : Jvm.MethodName) prog_2_method_5_code (2 : Nat) (Option.some Jvm.ClassFile.FieldType.boolean)]
set_option maxRecDepth 65536 in
theorem codes_eq : words1.filter isCode = codes1 := rfl
theorem w_codes : ∀ c ∈ words1.filter isCode, c.before args0 about1 = true := by
  rw [codes_eq]
  intro c hc
  simp only [codes1, List.mem_cons, List.not_mem_nil, or_false] at hc
  rcases hc with rfl | rfl | rfl
  · exact w_c0
  · exact w_c1
  · exact w_c2
set_option maxRecDepth 65536 in
theorem w_t1 : words1.all (fun c => isCode c || c.before args0 about1) = true := by decide +kernel
theorem w_tables : (allAtoms (Jvm.Cond.code x code maxLocals ret :: tables_1)).before args0 about1 = true := by
  rw [allAtoms_all]
  show words1.all (fun c => c.before args0 about1) = true
  refine all_split ?_ w_codes
  rw [w_t1]
set_option maxRecDepth 65536 in
theorem w_case : (Jvm.Cond.and given_1 narrow_1).before args0 about1 = true := by decide +kernel
theorem w_applies : (headSpec (Jvm.Cond.code x code maxLocals ret :: tables_1) room_1).applies x e0.platform about1 = true :=
  (Spec.applies_iff w_frames).mpr ⟨w_running, w_runnable, w_alone, w_named, w_hears, w_ripe, w_room, w_tables⟩
theorem atStart : AtStart classFile x code maxLocals ret World_1 tables_1 room_1 Calls_1 rest_1 Pre_1 launch0 p0 e0 about1 theMethod args0 below0 :=
  ⟨lists_1, trivial, launch0.admits_env _ _ _, launch0.least_env, fairChoices_fair.cas, fairChoices_fair.clock, w_frames, w_args, w_heap, w_applies, trivial, trivial, w_case⟩
end start1
theorem witness_1 : WitnessClaimed_1 := ⟨start1.p0, start1.e0, start1.about1, start1.theMethod, start1.args0, start1.below0, start1.atStart⟩
end Jvm.Pilot.@@N@@
