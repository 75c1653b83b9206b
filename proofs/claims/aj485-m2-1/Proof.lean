import JvmDerived
import JvmDerived.Pilot.@@N@@Statement
import JvmDerived.Pilot.@@N@@Code
set_option linter.unusedVariables false
set_option linter.unusedSimpArgs false
@@BLOCK:NumsL.lean.txt@@
namespace Jvm.RoadKit
open Sem ClassFile Op Lib Jvm.Stand Jvm.Free Jvm.LawKit
section New
variable {p : Program} {l : Launch} {e : Env} {R : Room} {s : State} {m : MethodId} {args : Array Value} {below : List Frame} {meth : Method} {c : Code} {T : State} {locs : List Loc} {cells slots : Nat}
theorem retI (X : Stand p l e R s m args below meth c T locs cells slots) (hx : p.tables.exec = Jvm.exec) {pc : Nat} {Ls : Array Slot} {z : Int32} {rest : List Value} (hret : meth.sig.returnType = some .int) (hd : decode c.code pc = .ok (.ireturn, 1)) {fs : List Frame}
    (hl : ∀ (f : JFrame) (acts : List Action), f.method = m → f.locked = none → f.entered = [] → (doReturn e (T.setTop f) acts (some (.int z))).1 = T.setFrames fs) : Steps p.tables e below (T.setTop (mkF m pc Ls (.int z :: rest))) (T.setFrames fs) := by
  have hm' : T.vm.method? m = some meth := X.method'
  have hn : narrow .int (.int z) = .int z := rfl
  show Steps p.tables e below (T.setTop { method := m, pc := pc, locals := Ls, stack := _ :: rest, locked := none }) _
  jvm_step X.here [X.here.top, hx, hd, hm', hret, hn]
  first | (intro acts; rw [hl _ acts rfl rfl rfl]) | rw [hl _ _ rfl rfl rfl]
  exact Steps.refl _
end New
end Jvm.RoadKit
namespace Jvm.Pilot.@@N@@
open Jvm Jvm.ClassFile Sem Op Lib Jvm.Free Jvm.Stand Jvm.LawKit Jvm.RoadKit Bundle Jvm.Pilot.@@N@@.Jvm.D


/-! what a body that writes nothing leaves: the value, no old place, the heap as it was -/
def QC (h0 : Heap) (n0 : Nat) (w v : Option Value) (h : Heap) (L : List Loc) : Prop := v = w ∧ Fr n0 L ∧ h = h0
/-- a body that writes nothing, by its contract -/
abbrev Ro (l : Launch) (Z : State) (y : MethodName) (bytes : ByteArray) (maxL : Nat) (rt : Option FieldType) (rm : Room) (as' : Array Value) (h0 : Heap) (n0 : Nat) (w : Option Value) : Prop :=
  MetFree l y (head1 [Jvm.Cond.code y bytes maxL rt] rm) (fun a U => a = as' ∧ Z.Warmed39 U.vm ∧ U.heap = h0) (fun _ _ _ _ _ => True) (fun _ U o U' => ∃ v L, o = .returned v ∧ QC h0 n0 w v U'.heap L ∧ FrameEnd U o U' L rm.cells rm.slots)
theorem own_eqi {t : Term} {n : Int32} {args : Array Value} {s : State} (h : (Jvm.Cond.eq t (.int n)).value args s none s [] = some true) : t.eval args s none [] s = some (.int n) := by
  simp only [Cond.value, Term.eval] at h
  cases ht : t.eval args s none [] s with
  | none => simp [ht] at h
  | some v => cases v <;> simp [ht] at h ⊢ <;> exact h
theorem own_eqr {t u : Term} {b : Addr} {args : Array Value} {s : State} (hu : u.eval args s none [] s = some (.ref b)) (h : (Jvm.Cond.eq t u).value args s none s [] = some true) : t.eval args s none [] s = some (.ref b) := by
  simp only [Cond.value, hu] at h
  cases ht : t.eval args s none [] s with
  | none => simp [ht] at h
  | some v => cases v <;> simp [ht] at h ⊢ <;> exact h

def QL (n0 : Nat) (v : Option Value) (h : Heap) (L : List Loc) : Prop := v = some (.int (1 : Int32)) ∧ Fr n0 L
theorem d1_0 : decode prog_29_method_9_code 0 = .ok (.aload_n 0, 1) := by decide +kernel
theorem d1_1 : decode prog_29_method_9_code 1 = .ok (.getstatic 7, 3) := by decide +kernel
theorem d1_4 : decode prog_29_method_9_code 4 = .ok (.if_acmp .eq 10, 3) := by decide +kernel
theorem d1_14 : decode prog_29_method_9_code 14 = .ok (.iconst 1, 1) := by decide +kernel
theorem d1_15 : decode prog_29_method_9_code 15 = .ok (.goto 4, 3) := by decide +kernel
theorem d1_19 : decode prog_29_method_9_code 19 = .ok (.ireturn, 1) := by decide +kernel
theorem pn_1 : plainName "com/example/ratesmith/ratesmith/model/RateKind" = true := by first | (simp [plainName, overriddenIn]; done) | decide +kernel
theorem ef_1 (m : MethodId) (x0 : Addr) : entryFrame m #[(.ref x0)] 1 = mkF m 0 #[.val (.ref x0)] [] := by first | (simp [entryFrame, mkF, argsToLocals, Value.category]; done) | rfl
set_option maxRecDepth 65536 in
set_option maxHeartbeats 40000000 in
theorem rm1_t (l : Launch) (Z : State) (a0 : Array Value) (hw : ∀ d ∈ tables_1, d.before a0 Z = true) (ws : List Jvm.Cond) (a1 : Addr) (w2 : Addr) (h0 : Heap) (n0 : Nat) (Z0 : n0 ≤ h0.size) (S_CONTRACT : Sta Z h0 "com/example/ratesmith/ratesmith/model/RateKind" "CONTRACT" "Lcom/example/ratesmith/ratesmith/model/RateKind;" (.ref w2)) (ha4 : a1 = w2) :
    MetFree l (⟨"com/example/ratesmith/ratesmith/model/RateKind", "atTitleBilled", "()Z"⟩ : MethodName) (head1 (Jvm.Cond.code (⟨"com/example/ratesmith/ratesmith/model/RateKind", "atTitleBilled", "()Z"⟩ : MethodName) prog_29_method_9_code 1 (some .boolean) :: ws) ({ frames := 0, cells := 0, slots := 0, locals := 0 } : Room)) (fun a U => a = #[(.ref a1)] ∧ Z.Warmed39 U.vm ∧ U.heap = h0) (fun _ _ _ _ _ => True) (fun _ U o U' => ∃ v L, o = .returned v ∧ QC h0 n0 (some (.int (1 : Int32))) v U'.heap L ∧ FrameEnd U o U' L ({ frames := 0, cells := 0, slots := 0, locals := 0 } : Room).cells ({ frames := 0, cells := 0, slots := 0, locals := 0 } : Room).slots) := by
  refine MetFree.of_bodySF (plainFor_of_name pn_1) hisR ?_
  intro p e s m args below meth c s₁ Bd hml0 hP hK
  obtain ⟨rfl, hZ, hh⟩ := hP
  have hx := Bd.exec
  have hby := Bd.bytes
  have hml : c.maxLocals = 1 := hml0
  have hown : s.vm.findClass "com/example/ratesmith/ratesmith/model/RateKind" = some m.cls := findClass_of_methodNamed Bd.named
  have hnm := (name_of_methodNamed Bd.named Bd.method).1
  have X0 : Stand p l e ({ frames := 0, cells := 0, slots := 0, locals := 0 } : Room) s m #[(.ref a1)] below meth c s₁ [] 0 0 := Stand.of_body Bd
  have e0 : s₁.heap = h0 := by rw [← hh, Bd.state]; rfl
  have N0 := Fr.nil n0
  have pre0 : ∀ t, Steps p.tables e below (s₁.setTop (mkF m 0 #[.val (.ref a1)] [])) t → Steps p.tables e below (s₁.setTop (entryFrame m #[(.ref a1)] 1)) t := fun t k => castTop (ef_1 m a1) k

  obtain ⟨T3, X3, e3, st3⟩ := getS2 X0 hx hZ hown (host := "") (Or.inl (hw _ (List.mem_of_getElem? (i := 17) rfl))) Via.refl e0 S_CONTRACT (g := (mkF m 1 #[.val (.ref a1)] [(.ref a1)])) rfl (hb hby d1_1)
  obtain ⟨fs, hr, hrun, hended, hW, hsame⟩ := X3.leave (v := some (.int (1 : Int32))) (fun h => by rw [Bd.returns] at h; cases h)
  refine ⟨_, _, pre0 _ ?_, hrun, hended, _, _, rfl, ?_, ⟨_, rfl⟩, hW, hsame.mono (by decide) (by decide)⟩

  · show Steps p.tables e below (s₁.setTop (mkF m 0 #[.val (.ref a1)] [])) _
    refine XS.aloadN X0.here hx rfl (hb hby d1_0) rfl rfl ?_
    show Steps p.tables e below (s₁.setTop (mkF m 1 #[.val (.ref a1)] [(.ref a1)])) _
    refine st3 _ ?_
    show Steps p.tables e below (T3.setTop (mkF m 4 #[.val (.ref a1)] [(.ref w2), (.ref a1)])) _
    refine Jvm.RoadKit.acmp (g := (mkF m 4 #[.val (.ref a1)] [(.ref w2), (.ref a1)])) X3 hx rfl rfl rfl (pc0 := 4) (pc' := 14) (same := true) rfl (hb hby d1_4) rfl (decide_eq_true (congrArg Value.ref ha4)) (by decide) (by decide) ?_
    show Steps p.tables e below (T3.setTop (mkF m 14 #[.val (.ref a1)] [])) _
    refine XS.iconst X3.here hx rfl (hb hby d1_14) ?_
    show Steps p.tables e below (T3.setTop (mkF m 15 #[.val (.ref a1)] [(.int (1 : Int32))])) _
    refine XS.goto X3.here hx rfl (pc0 := 15) (pc' := 19) rfl (hb hby d1_15) (by decide) (by decide) ?_
    show Steps p.tables e below (T3.setTop (mkF m 19 #[.val (.ref a1)] [(.int (1 : Int32))])) _
    exact retN X3 hx (t := .boolean) Bd.returns (by simp) (hb hby d1_19) hr
  · show QC h0 n0 (some (.int (1 : Int32))) _ T3.heap _
    rw [e3]
    exact ⟨rfl, N0, rfl⟩

theorem d1_7 : decode prog_29_method_9_code 7 = .ok (.aload_n 0, 1) := by decide +kernel
theorem d1_8 : decode prog_29_method_9_code 8 = .ok (.getstatic 10, 3) := by decide +kernel
theorem d1_11 : decode prog_29_method_9_code 11 = .ok (.if_acmp .ne 7, 3) := by decide +kernel
set_option maxRecDepth 65536 in
set_option maxHeartbeats 40000000 in
theorem rm1_ff (l : Launch) (Z : State) (a0 : Array Value) (hw : ∀ d ∈ tables_1, d.before a0 Z = true) (ws : List Jvm.Cond) (a1 : Addr) (w2 : Addr) (w4 : Addr) (h0 : Heap) (n0 : Nat) (Z0 : n0 ≤ h0.size) (S_CONTRACT : Sta Z h0 "com/example/ratesmith/ratesmith/model/RateKind" "CONTRACT" "Lcom/example/ratesmith/ratesmith/model/RateKind;" (.ref w2)) (S_BILLING : Sta Z h0 "com/example/ratesmith/ratesmith/model/RateKind" "BILLING" "Lcom/example/ratesmith/ratesmith/model/RateKind;" (.ref w4)) (ha4 : ¬ (a1 = w2)) (ha11 : a1 = w4) :
    MetFree l (⟨"com/example/ratesmith/ratesmith/model/RateKind", "atTitleBilled", "()Z"⟩ : MethodName) (head1 (Jvm.Cond.code (⟨"com/example/ratesmith/ratesmith/model/RateKind", "atTitleBilled", "()Z"⟩ : MethodName) prog_29_method_9_code 1 (some .boolean) :: ws) ({ frames := 0, cells := 0, slots := 0, locals := 0 } : Room)) (fun a U => a = #[(.ref a1)] ∧ Z.Warmed39 U.vm ∧ U.heap = h0) (fun _ _ _ _ _ => True) (fun _ U o U' => ∃ v L, o = .returned v ∧ QC h0 n0 (some (.int (1 : Int32))) v U'.heap L ∧ FrameEnd U o U' L ({ frames := 0, cells := 0, slots := 0, locals := 0 } : Room).cells ({ frames := 0, cells := 0, slots := 0, locals := 0 } : Room).slots) := by
  refine MetFree.of_bodySF (plainFor_of_name pn_1) hisR ?_
  intro p e s m args below meth c s₁ Bd hml0 hP hK
  obtain ⟨rfl, hZ, hh⟩ := hP
  have hx := Bd.exec
  have hby := Bd.bytes
  have hml : c.maxLocals = 1 := hml0
  have hown : s.vm.findClass "com/example/ratesmith/ratesmith/model/RateKind" = some m.cls := findClass_of_methodNamed Bd.named
  have hnm := (name_of_methodNamed Bd.named Bd.method).1
  have X0 : Stand p l e ({ frames := 0, cells := 0, slots := 0, locals := 0 } : Room) s m #[(.ref a1)] below meth c s₁ [] 0 0 := Stand.of_body Bd
  have e0 : s₁.heap = h0 := by rw [← hh, Bd.state]; rfl
  have N0 := Fr.nil n0
  have pre0 : ∀ t, Steps p.tables e below (s₁.setTop (mkF m 0 #[.val (.ref a1)] [])) t → Steps p.tables e below (s₁.setTop (entryFrame m #[(.ref a1)] 1)) t := fun t k => castTop (ef_1 m a1) k

  obtain ⟨T3, X3, e3, st3⟩ := getS2 X0 hx hZ hown (host := "") (Or.inl (hw _ (List.mem_of_getElem? (i := 17) rfl))) Via.refl e0 S_CONTRACT (g := (mkF m 1 #[.val (.ref a1)] [(.ref a1)])) rfl (hb hby d1_1)
  obtain ⟨T5, X5, e5, st5⟩ := getS2 X3 hx hZ hown (host := "") (Or.inl (hw _ (List.mem_of_getElem? (i := 18) rfl))) Via.refl e3 S_BILLING (g := (mkF m 8 #[.val (.ref a1)] [(.ref a1)])) rfl (hb hby d1_8)
  obtain ⟨fs, hr, hrun, hended, hW, hsame⟩ := X5.leave (v := some (.int (1 : Int32))) (fun h => by rw [Bd.returns] at h; cases h)
  refine ⟨_, _, pre0 _ ?_, hrun, hended, _, _, rfl, ?_, ⟨_, rfl⟩, hW, hsame.mono (by decide) (by decide)⟩

  · show Steps p.tables e below (s₁.setTop (mkF m 0 #[.val (.ref a1)] [])) _
    refine XS.aloadN X0.here hx rfl (hb hby d1_0) rfl rfl ?_
    show Steps p.tables e below (s₁.setTop (mkF m 1 #[.val (.ref a1)] [(.ref a1)])) _
    refine st3 _ ?_
    show Steps p.tables e below (T3.setTop (mkF m 4 #[.val (.ref a1)] [(.ref w2), (.ref a1)])) _
    refine Jvm.RoadKit.acmp (g := (mkF m 4 #[.val (.ref a1)] [(.ref w2), (.ref a1)])) X3 hx rfl rfl rfl (pc0 := 4) (pc' := 7) (same := false) rfl (hb hby d1_4) rfl (decide_eq_false fun q => ha4 (Value.ref.inj q)) (by decide) (by decide) ?_
    show Steps p.tables e below (T3.setTop (mkF m 7 #[.val (.ref a1)] [])) _
    refine XS.aloadN X3.here hx rfl (hb hby d1_7) rfl rfl ?_
    show Steps p.tables e below (T3.setTop (mkF m 8 #[.val (.ref a1)] [(.ref a1)])) _
    refine st5 _ ?_
    show Steps p.tables e below (T5.setTop (mkF m 11 #[.val (.ref a1)] [(.ref w4), (.ref a1)])) _
    refine Jvm.RoadKit.acmp (g := (mkF m 11 #[.val (.ref a1)] [(.ref w4), (.ref a1)])) X5 hx rfl rfl rfl (pc0 := 11) (pc' := 14) (same := true) rfl (hb hby d1_11) rfl (decide_eq_true (congrArg Value.ref ha11)) (by decide) (by decide) ?_
    show Steps p.tables e below (T5.setTop (mkF m 14 #[.val (.ref a1)] [])) _
    refine XS.iconst X5.here hx rfl (hb hby d1_14) ?_
    show Steps p.tables e below (T5.setTop (mkF m 15 #[.val (.ref a1)] [(.int (1 : Int32))])) _
    refine XS.goto X5.here hx rfl (pc0 := 15) (pc' := 19) rfl (hb hby d1_15) (by decide) (by decide) ?_
    show Steps p.tables e below (T5.setTop (mkF m 19 #[.val (.ref a1)] [(.int (1 : Int32))])) _
    exact retN X5 hx (t := .boolean) Bd.returns (by simp) (hb hby d1_19) hr
  · show QC h0 n0 (some (.int (1 : Int32))) _ T5.heap _
    rw [e5]
    exact ⟨rfl, N0, rfl⟩

theorem d1_18 : decode prog_29_method_9_code 18 = .ok (.iconst 0, 1) := by decide +kernel
set_option maxRecDepth 65536 in
set_option maxHeartbeats 40000000 in
theorem rm1_ft (l : Launch) (Z : State) (a0 : Array Value) (hw : ∀ d ∈ tables_1, d.before a0 Z = true) (ws : List Jvm.Cond) (a1 : Addr) (w2 : Addr) (w4 : Addr) (h0 : Heap) (n0 : Nat) (Z0 : n0 ≤ h0.size) (S_CONTRACT : Sta Z h0 "com/example/ratesmith/ratesmith/model/RateKind" "CONTRACT" "Lcom/example/ratesmith/ratesmith/model/RateKind;" (.ref w2)) (S_BILLING : Sta Z h0 "com/example/ratesmith/ratesmith/model/RateKind" "BILLING" "Lcom/example/ratesmith/ratesmith/model/RateKind;" (.ref w4)) (ha4 : ¬ (a1 = w2)) (ha11 : ¬ (a1 = w4)) :
    MetFree l (⟨"com/example/ratesmith/ratesmith/model/RateKind", "atTitleBilled", "()Z"⟩ : MethodName) (head1 (Jvm.Cond.code (⟨"com/example/ratesmith/ratesmith/model/RateKind", "atTitleBilled", "()Z"⟩ : MethodName) prog_29_method_9_code 1 (some .boolean) :: ws) ({ frames := 0, cells := 0, slots := 0, locals := 0 } : Room)) (fun a U => a = #[(.ref a1)] ∧ Z.Warmed39 U.vm ∧ U.heap = h0) (fun _ _ _ _ _ => True) (fun _ U o U' => ∃ v L, o = .returned v ∧ QC h0 n0 (some (.int (0 : Int32))) v U'.heap L ∧ FrameEnd U o U' L ({ frames := 0, cells := 0, slots := 0, locals := 0 } : Room).cells ({ frames := 0, cells := 0, slots := 0, locals := 0 } : Room).slots) := by
  refine MetFree.of_bodySF (plainFor_of_name pn_1) hisR ?_
  intro p e s m args below meth c s₁ Bd hml0 hP hK
  obtain ⟨rfl, hZ, hh⟩ := hP
  have hx := Bd.exec
  have hby := Bd.bytes
  have hml : c.maxLocals = 1 := hml0
  have hown : s.vm.findClass "com/example/ratesmith/ratesmith/model/RateKind" = some m.cls := findClass_of_methodNamed Bd.named
  have hnm := (name_of_methodNamed Bd.named Bd.method).1
  have X0 : Stand p l e ({ frames := 0, cells := 0, slots := 0, locals := 0 } : Room) s m #[(.ref a1)] below meth c s₁ [] 0 0 := Stand.of_body Bd
  have e0 : s₁.heap = h0 := by rw [← hh, Bd.state]; rfl
  have N0 := Fr.nil n0
  have pre0 : ∀ t, Steps p.tables e below (s₁.setTop (mkF m 0 #[.val (.ref a1)] [])) t → Steps p.tables e below (s₁.setTop (entryFrame m #[(.ref a1)] 1)) t := fun t k => castTop (ef_1 m a1) k

  obtain ⟨T3, X3, e3, st3⟩ := getS2 X0 hx hZ hown (host := "") (Or.inl (hw _ (List.mem_of_getElem? (i := 17) rfl))) Via.refl e0 S_CONTRACT (g := (mkF m 1 #[.val (.ref a1)] [(.ref a1)])) rfl (hb hby d1_1)
  obtain ⟨T5, X5, e5, st5⟩ := getS2 X3 hx hZ hown (host := "") (Or.inl (hw _ (List.mem_of_getElem? (i := 18) rfl))) Via.refl e3 S_BILLING (g := (mkF m 8 #[.val (.ref a1)] [(.ref a1)])) rfl (hb hby d1_8)
  obtain ⟨fs, hr, hrun, hended, hW, hsame⟩ := X5.leave (v := some (.int (0 : Int32))) (fun h => by rw [Bd.returns] at h; cases h)
  refine ⟨_, _, pre0 _ ?_, hrun, hended, _, _, rfl, ?_, ⟨_, rfl⟩, hW, hsame.mono (by decide) (by decide)⟩

  · show Steps p.tables e below (s₁.setTop (mkF m 0 #[.val (.ref a1)] [])) _
    refine XS.aloadN X0.here hx rfl (hb hby d1_0) rfl rfl ?_
    show Steps p.tables e below (s₁.setTop (mkF m 1 #[.val (.ref a1)] [(.ref a1)])) _
    refine st3 _ ?_
    show Steps p.tables e below (T3.setTop (mkF m 4 #[.val (.ref a1)] [(.ref w2), (.ref a1)])) _
    refine Jvm.RoadKit.acmp (g := (mkF m 4 #[.val (.ref a1)] [(.ref w2), (.ref a1)])) X3 hx rfl rfl rfl (pc0 := 4) (pc' := 7) (same := false) rfl (hb hby d1_4) rfl (decide_eq_false fun q => ha4 (Value.ref.inj q)) (by decide) (by decide) ?_
    show Steps p.tables e below (T3.setTop (mkF m 7 #[.val (.ref a1)] [])) _
    refine XS.aloadN X3.here hx rfl (hb hby d1_7) rfl rfl ?_
    show Steps p.tables e below (T3.setTop (mkF m 8 #[.val (.ref a1)] [(.ref a1)])) _
    refine st5 _ ?_
    show Steps p.tables e below (T5.setTop (mkF m 11 #[.val (.ref a1)] [(.ref w4), (.ref a1)])) _
    refine Jvm.RoadKit.acmp (g := (mkF m 11 #[.val (.ref a1)] [(.ref w4), (.ref a1)])) X5 hx rfl rfl rfl (pc0 := 11) (pc' := 18) (same := false) rfl (hb hby d1_11) rfl (decide_eq_false fun q => ha11 (Value.ref.inj q)) (by decide) (by decide) ?_
    show Steps p.tables e below (T5.setTop (mkF m 18 #[.val (.ref a1)] [])) _
    refine XS.iconst X5.here hx rfl (hb hby d1_18) ?_
    show Steps p.tables e below (T5.setTop (mkF m 19 #[.val (.ref a1)] [(.int (0 : Int32))])) _
    exact retN X5 hx (t := .boolean) Bd.returns (by simp) (hb hby d1_19) hr
  · show QC h0 n0 (some (.int (0 : Int32))) _ T5.heap _
    rw [e5]
    exact ⟨rfl, N0, rfl⟩

theorem pn_0 : plainName "com/example/ratesmith/ratesmith/model/RateKindAtTitleBilledPinLaw" = true := by first | (simp [plainName, overriddenIn]; done) | decide +kernel
theorem pd_0_0 : parseMethodDescriptor "()Z" = some ⟨[], some .boolean⟩ := by decide +kernel
theorem ef_0 (m : MethodId) (x0 : Int32) : entryFrame m #[(.int x0)] maxLocals = mkF m 0 #[.val (.int x0), .unset, .unset, .unset, .unset] [] := by first | (simp [entryFrame, mkF, argsToLocals, Value.category, maxLocals]; done) | rfl
set_option maxRecDepth 65536 in
set_option maxHeartbeats 40000000 in
theorem rm0_0 (l : Launch) (Z : State) (a0 : Array Value) (hw : ∀ d ∈ tables_1, d.before a0 Z = true) (ws : List Jvm.Cond) (p1 : Int32) (w3 : Addr) (w6 : Addr) (w9 : Addr) (w12 : Addr) (h0 : Heap) (n0 : Nat) (Z0 : n0 ≤ h0.size) (S_STANDARD : Sta Z h0 "com/example/ratesmith/ratesmith/model/RateKind" "STANDARD" "Lcom/example/ratesmith/ratesmith/model/RateKind;" (.ref w3)) (S_CONTRACT : Sta Z h0 "com/example/ratesmith/ratesmith/model/RateKind" "CONTRACT" "Lcom/example/ratesmith/ratesmith/model/RateKind;" (.ref w6)) (S_BILLING : Sta Z h0 "com/example/ratesmith/ratesmith/model/RateKind" "BILLING" "Lcom/example/ratesmith/ratesmith/model/RateKind;" (.ref w9)) (S_COST : Sta Z h0 "com/example/ratesmith/ratesmith/model/RateKind" "COST" "Lcom/example/ratesmith/ratesmith/model/RateKind;" (.ref w12)) (E_w3 : Exa Z h0 w3 "com/example/ratesmith/ratesmith/model/RateKind") (E_w6 : Exa Z h0 w6 "com/example/ratesmith/ratesmith/model/RateKind") (E_w9 : Exa Z h0 w9 "com/example/ratesmith/ratesmith/model/RateKind") (E_w12 : Exa Z h0 w12 "com/example/ratesmith/ratesmith/model/RateKind") (hk : (p1 &&& (3 : Int32)) = (0 : Int32)) (n1 : ¬ (w3 = w6)) (n2 : ¬ (w3 = w9)) :
    MetFree l x (head1 (Jvm.Cond.code x code maxLocals ret :: ws) room_1) (fun a U => a = #[(.int p1)] ∧ Z.Warmed39 U.vm ∧ U.heap = h0) (fun _ _ _ _ _ => True) (fun _ U o U' => ∃ v L, o = .returned v ∧ QL n0 v U'.heap L ∧ FrameEnd U o U' L room_1.cells room_1.slots) := by
  refine MetFree.of_bodySF (plainFor_of_name pn_0) hisR ?_
  intro p e s m args below meth c s₁ Bd hml0 hP hK
  obtain ⟨rfl, hZ, hh⟩ := hP
  have hx := Bd.exec
  have hby := Bd.bytes
  have hml : c.maxLocals = 5 := hml0
  have hown : s.vm.findClass "com/example/ratesmith/ratesmith/model/RateKindAtTitleBilledPinLaw" = some m.cls := findClass_of_methodNamed Bd.named
  have hnm := (name_of_methodNamed Bd.named Bd.method).1
  have X0 : Stand p l e room_1 s m #[(.int p1)] below meth c s₁ [] 0 0 := Stand.of_body Bd
  have e0 : s₁.heap = h0 := by rw [← hh, Bd.state]; rfl
  have N0 := Fr.nil n0
  have pre0 : ∀ t, Steps p.tables e below (s₁.setTop (mkF m 0 #[.val (.int p1), .unset, .unset, .unset, .unset] [])) t → Steps p.tables e below (s₁.setTop (entryFrame m #[(.int p1)] maxLocals)) t := fun t k => castTop (ef_0 m p1) k

  obtain ⟨T2, h2, k2, X2, e2, E2, A2, O2, st2⟩ := newR X0 hx hZ hown (hw _ (List.mem_of_getElem? (i := 0) rfl)) (hw _ (List.mem_of_getElem? (i := 1) rfl)) e0 (g := (mkF m 1 #[.val (.int p1), .unset, .unset, .unset, .unset] [(.int (4 : Int32))])) rfl (hb hby at_1) rfl (by decide) (cap := 4) (by decide) (by decide) (by decide) (by decide)
  obtain ⟨b2, g2⟩ : ∃ z, z = h0.size := ⟨_, rfl⟩
  rw [← g2] at A2 st2
  have V_b2 : Arv Z h2 b2 k2 (.object "com/example/ratesmith/ratesmith/model/RateKind") (4 : Int32) [.null, .null, .null, .null] .null := (Arv.new A2 (by decide)).pad (pad_rep [] .null 4)
  have g_b2 : n0 ≤ b2 := Nat.le_trans Z0 (Nat.le_of_eq g2.symm)
  have sz_b2 : h0.size ≤ b2 := (Nat.le_trans (Keep.refl h0 []).1 (Nat.le_of_eq g2.symm))
  have K2 : Keep h0 h2 [] := (Keep.refl h0 []).ext E2
  obtain ⟨T4, X4, e4, st4⟩ := getS2 X2 hx hZ hown (host := "") (Or.inl (hw _ (List.mem_of_getElem? (i := 2) rfl))) Via.refl e2 (S_STANDARD.ext E2) (g := (mkF m 6 #[.val (.int p1), .unset, .unset, .unset, .unset] [(.int (0 : Int32)), (.ref b2), (.ref b2)])) rfl (hb hby at_6)


  obtain ⟨cl_5, Ar_b2, q_b2, S_b2, N_b2, H_b2, G_b2⟩ := V_b2
  have hin9 : ¬ ((0 : Int32) < 0 ∨ cl_5.slots.size ≤ (0 : Int32).toNatClampNeg) := inb_of S_b2 ⟨by decide, by decide⟩
  have Sto9 := Sto.ofV Ar_b2 q_b2 O2 (Ins.self (E_w3.ext E2))
  obtain ⟨T5, h5, X5, e5, W5, st5⟩ := stR X4 hx hZ e4 Ar_b2 (j := (0 : Int32)) hin9 rfl Sto9 (g := (mkF m 9 #[.val (.int p1), .unset, .unset, .unset, .unset] [(.ref w3), (.int (0 : Int32)), (.ref b2), (.ref b2)])) rfl rfl (hb hby at_9)
  have V_b2_5 := Arv.set Ar_b2 q_b2 S_b2 N_b2 H_b2 G_b2 rfl W5 0 rfl (Nat.le_of_ble_eq_true rfl)
  have N5 := Fr.snoc X5 N0 g_b2

  have K5 : Keep h0 h5 [] := K2.wr W5 (Or.inr sz_b2)
  obtain ⟨T7, X7, e7, st7⟩ := getS2 X5 hx hZ hown (host := "") (Or.inl (hw _ (List.mem_of_getElem? (i := 6) rfl))) Via.refl e5 ((S_CONTRACT.ext E2).wr W5) (g := (mkF m 12 #[.val (.int p1), .unset, .unset, .unset, .unset] [(.int (1 : Int32)), (.ref b2), (.ref b2)])) rfl (hb hby at_12)


  obtain ⟨cl_8, Ar_b2, q_b2, S_b2, N_b2, H_b2, G_b2⟩ := V_b2_5
  have hin15 : ¬ ((1 : Int32) < 0 ∨ cl_8.slots.size ≤ (1 : Int32).toNatClampNeg) := inb_of S_b2 ⟨by decide, by decide⟩
  have Sto15 := Sto.ofV Ar_b2 q_b2 O2 (Ins.self ((E_w6.ext E2).wr W5))
  obtain ⟨T8, h8, X8, e8, W8, st8⟩ := stR X7 hx hZ e7 Ar_b2 (j := (1 : Int32)) hin15 rfl Sto15 (g := (mkF m 15 #[.val (.int p1), .unset, .unset, .unset, .unset] [(.ref w6), (.int (1 : Int32)), (.ref b2), (.ref b2)])) rfl rfl (hb hby at_15)
  have V_b2_8 := Arv.set Ar_b2 q_b2 S_b2 N_b2 H_b2 G_b2 rfl W8 1 rfl (Nat.le_of_ble_eq_true rfl)
  have N8 := Fr.snoc X8 N5 g_b2

  have K8 : Keep h0 h8 [] := K5.wr W8 (Or.inr sz_b2)
  obtain ⟨T10, X10, e10, st10⟩ := getS2 X8 hx hZ hown (host := "") (Or.inl (hw _ (List.mem_of_getElem? (i := 8) rfl))) Via.refl e8 (((S_BILLING.ext E2).wr W5).wr W8) (g := (mkF m 18 #[.val (.int p1), .unset, .unset, .unset, .unset] [(.int (2 : Int32)), (.ref b2), (.ref b2)])) rfl (hb hby at_18)


  obtain ⟨cl_11, Ar_b2, q_b2, S_b2, N_b2, H_b2, G_b2⟩ := V_b2_8
  have hin21 : ¬ ((2 : Int32) < 0 ∨ cl_11.slots.size ≤ (2 : Int32).toNatClampNeg) := inb_of S_b2 ⟨by decide, by decide⟩
  have Sto21 := Sto.ofV Ar_b2 q_b2 O2 (Ins.self (((E_w9.ext E2).wr W5).wr W8))
  obtain ⟨T11, h11, X11, e11, W11, st11⟩ := stR X10 hx hZ e10 Ar_b2 (j := (2 : Int32)) hin21 rfl Sto21 (g := (mkF m 21 #[.val (.int p1), .unset, .unset, .unset, .unset] [(.ref w9), (.int (2 : Int32)), (.ref b2), (.ref b2)])) rfl rfl (hb hby at_21)
  have V_b2_11 := Arv.set Ar_b2 q_b2 S_b2 N_b2 H_b2 G_b2 rfl W11 2 rfl (Nat.le_of_ble_eq_true rfl)
  have N11 := Fr.snoc X11 N8 g_b2

  have K11 : Keep h0 h11 [] := K8.wr W11 (Or.inr sz_b2)
  obtain ⟨T13, X13, e13, st13⟩ := getS2 X11 hx hZ hown (host := "") (Or.inl (hw _ (List.mem_of_getElem? (i := 10) rfl))) Via.refl e11 ((((S_COST.ext E2).wr W5).wr W8).wr W11) (g := (mkF m 24 #[.val (.int p1), .unset, .unset, .unset, .unset] [(.int (3 : Int32)), (.ref b2), (.ref b2)])) rfl (hb hby at_24)


  obtain ⟨cl_14, Ar_b2, q_b2, S_b2, N_b2, H_b2, G_b2⟩ := V_b2_11
  have hin27 : ¬ ((3 : Int32) < 0 ∨ cl_14.slots.size ≤ (3 : Int32).toNatClampNeg) := inb_of S_b2 ⟨by decide, by decide⟩
  have Sto27 := Sto.ofV Ar_b2 q_b2 O2 (Ins.self ((((E_w12.ext E2).wr W5).wr W8).wr W11))
  obtain ⟨T14, h14, X14, e14, W14, st14⟩ := stR X13 hx hZ e13 Ar_b2 (j := (3 : Int32)) hin27 rfl Sto27 (g := (mkF m 27 #[.val (.int p1), .unset, .unset, .unset, .unset] [(.ref w12), (.int (3 : Int32)), (.ref b2), (.ref b2)])) rfl rfl (hb hby at_27)
  have V_b2_14 := Arv.set Ar_b2 q_b2 S_b2 N_b2 H_b2 G_b2 rfl W14 3 rfl (Nat.le_of_ble_eq_true rfl)
  have N14 := Fr.snoc X14 N11 g_b2

  have K14 : Keep h0 h14 [] := K11.wr W14 (Or.inr sz_b2)
  obtain ⟨cl_e, Ar_b2, q_b2, S_b2, N_b2, H_b2, G_b2⟩ := V_b2_14
  have hin35 : ¬ ((p1 &&& (3 : Int32)) < 0 ∨ cl_e.slots.size ≤ (p1 &&& (3 : Int32)).toNatClampNeg) := by rw [hk]; exact inb_of S_b2 ⟨by decide, by decide⟩
  have hat35 : cl_e.slots[(p1 &&& (3 : Int32)).toNatClampNeg]? = some (.ref w3) := by rw [hk]; exact H_b2.at (inb_of S_b2 ⟨by decide, by decide⟩) rfl
  have hc39 : ¬ ((p1 &&& (3 : Int32)) = (1 : Int32)) := by rw [hk]; decide
  have hc44 : ¬ ((p1 &&& (3 : Int32)) = (2 : Int32)) := by rw [hk]; decide
  have Z14 : n0 ≤ h14.size := Nat.le_trans Z0 K14.1
  have S14_CONTRACT := (((((S_CONTRACT.ext E2).wr W5).wr W8).wr W11).wr W14)
  have S14_BILLING := (((((S_BILLING.ext E2).wr W5).wr W8).wr W11).wr W14)


  obtain ⟨cq16, kq16, q16a, q16b, q16c⟩ := isOf hZ e14 (((((E_w3.ext E2).wr W5).wr W8).wr W11).wr W14)
  obtain ⟨_, _, ⟨T16, L16, k16, n16⟩, -, X16, ⟨Lc16, hQ16, l16, y16, z16⟩, st16⟩ := X14.virtualBack hx (y := (⟨"com/example/ratesmith/ratesmith/model/RateKind", "atTitleBilled", "()Z"⟩ : MethodName)) (z := (⟨"com/example/ratesmith/ratesmith/model/RateKind", "atTitleBilled", "()Z"⟩ : MethodName)) hown (mvT hZ (hw _ (List.mem_of_getElem? (i := 12) rfl))) (mvT hZ (hw _ (List.mem_of_getElem? (i := 13) rfl))) (notFace_of_selects (args := #[]) (mvT hZ (hw _ (List.mem_of_getElem? (i := 15) rfl)))) (mvT hZ (hw _ (List.mem_of_getElem? (i := 15) rfl))) (mvT hZ (hw _ (List.mem_of_getElem? (i := 14) rfl))) (by decide) (backOf (W := 0) (rm1_ft l Z a0 hw [] w3 w6 w9 h14 n0 Z14 S14_CONTRACT S14_BILLING n1 n2) hZ (hw _ (List.mem_of_getElem? (i := 16) rfl)) (hw _ (List.mem_of_getElem? (i := 3) rfl)) (by decide) (by decide)) q16a q16c (g := (mkF m 55 #[.val (.int p1), .val (.ref b2), .val (.int (p1 &&& (3 : Int32))), .val (.ref w3), .val (.int (0 : Int32))] [(.ref w3)])) rfl (by rw [hml]; rfl) (Steps.refl _) (argsL := []) (rest := []) (lenOf pd_0_0 rfl) rfl (by show 2 * 0 + _ ≤ _; exact Nat.le_of_eq rfl) (hb hby at_55) (fun _ _ => ⟨rfl, e14, (by decide : 1 + 0 ≤ _), (by decide : 4 + 0 ≤ _)⟩)
  dsimp only [Pt.U, Pt.locs, Pt.cells, Pt.slots] at X16 l16 y16 z16 st16 hQ16
  subst l16 y16 z16
  obtain ⟨rfl, N16q, hE⟩ := hQ16
  have N16 := Fr.app N14 N16q
  obtain ⟨fs, hr, hrun, hended, hW, hsame⟩ := X16.leave (v := some (.int (1 : Int32))) (fun h => by rw [Bd.returns] at h; cases h)
  refine ⟨_, _, pre0 _ ?_, hrun, hended, _, _, rfl, ?_, ⟨_, rfl⟩, hW, hsame.mono (by decide) (by decide)⟩

  · show Steps p.tables e below (s₁.setTop (mkF m 0 #[.val (.int p1), .unset, .unset, .unset, .unset] [])) _
    refine XS.iconst X0.here hx rfl (hb hby at_0) ?_
    show Steps p.tables e below (s₁.setTop (mkF m 1 #[.val (.int p1), .unset, .unset, .unset, .unset] [(.int (4 : Int32))])) _
    refine st2 _ ?_
    show Steps p.tables e below (T2.setTop (mkF m 4 #[.val (.int p1), .unset, .unset, .unset, .unset] [(.ref b2)])) _
    refine XS.dup X2.here hx rfl (hb hby at_4) rfl rfl ?_
    show Steps p.tables e below (T2.setTop (mkF m 5 #[.val (.int p1), .unset, .unset, .unset, .unset] [(.ref b2), (.ref b2)])) _
    refine XS.iconst X2.here hx rfl (hb hby at_5) ?_
    show Steps p.tables e below (T2.setTop (mkF m 6 #[.val (.int p1), .unset, .unset, .unset, .unset] [(.int (0 : Int32)), (.ref b2), (.ref b2)])) _
    refine st4 _ ?_
    show Steps p.tables e below (T4.setTop (mkF m 9 #[.val (.int p1), .unset, .unset, .unset, .unset] [(.ref w3), (.int (0 : Int32)), (.ref b2), (.ref b2)])) _
    refine st5 _ ?_
    show Steps p.tables e below (T5.setTop (mkF m 10 #[.val (.int p1), .unset, .unset, .unset, .unset] [(.ref b2)])) _
    refine XS.dup X5.here hx rfl (hb hby at_10) rfl rfl ?_
    show Steps p.tables e below (T5.setTop (mkF m 11 #[.val (.int p1), .unset, .unset, .unset, .unset] [(.ref b2), (.ref b2)])) _
    refine XS.iconst X5.here hx rfl (hb hby at_11) ?_
    show Steps p.tables e below (T5.setTop (mkF m 12 #[.val (.int p1), .unset, .unset, .unset, .unset] [(.int (1 : Int32)), (.ref b2), (.ref b2)])) _
    refine st7 _ ?_
    show Steps p.tables e below (T7.setTop (mkF m 15 #[.val (.int p1), .unset, .unset, .unset, .unset] [(.ref w6), (.int (1 : Int32)), (.ref b2), (.ref b2)])) _
    refine st8 _ ?_
    show Steps p.tables e below (T8.setTop (mkF m 16 #[.val (.int p1), .unset, .unset, .unset, .unset] [(.ref b2)])) _
    refine XS.dup X8.here hx rfl (hb hby at_16) rfl rfl ?_
    show Steps p.tables e below (T8.setTop (mkF m 17 #[.val (.int p1), .unset, .unset, .unset, .unset] [(.ref b2), (.ref b2)])) _
    refine XS.iconst X8.here hx rfl (hb hby at_17) ?_
    show Steps p.tables e below (T8.setTop (mkF m 18 #[.val (.int p1), .unset, .unset, .unset, .unset] [(.int (2 : Int32)), (.ref b2), (.ref b2)])) _
    refine st10 _ ?_
    show Steps p.tables e below (T10.setTop (mkF m 21 #[.val (.int p1), .unset, .unset, .unset, .unset] [(.ref w9), (.int (2 : Int32)), (.ref b2), (.ref b2)])) _
    refine st11 _ ?_
    show Steps p.tables e below (T11.setTop (mkF m 22 #[.val (.int p1), .unset, .unset, .unset, .unset] [(.ref b2)])) _
    refine XS.dup X11.here hx rfl (hb hby at_22) rfl rfl ?_
    show Steps p.tables e below (T11.setTop (mkF m 23 #[.val (.int p1), .unset, .unset, .unset, .unset] [(.ref b2), (.ref b2)])) _
    refine XS.iconst X11.here hx rfl (hb hby at_23) ?_
    show Steps p.tables e below (T11.setTop (mkF m 24 #[.val (.int p1), .unset, .unset, .unset, .unset] [(.int (3 : Int32)), (.ref b2), (.ref b2)])) _
    refine st13 _ ?_
    show Steps p.tables e below (T13.setTop (mkF m 27 #[.val (.int p1), .unset, .unset, .unset, .unset] [(.ref w12), (.int (3 : Int32)), (.ref b2), (.ref b2)])) _
    refine st14 _ ?_
    show Steps p.tables e below (T14.setTop (mkF m 28 #[.val (.int p1), .unset, .unset, .unset, .unset] [(.ref b2)])) _
    refine XS.astoreN X14.here hx rfl (hb hby at_28) rfl rfl (l' := #[.val (.int p1), .val (.ref b2), .unset, .unset, .unset]) rfl ?_
    show Steps p.tables e below (T14.setTop (mkF m 29 #[.val (.int p1), .val (.ref b2), .unset, .unset, .unset] [])) _
    refine XS.iloadN X14.here hx rfl (hb hby at_29) rfl ?_
    show Steps p.tables e below (T14.setTop (mkF m 30 #[.val (.int p1), .val (.ref b2), .unset, .unset, .unset] [(.int p1)])) _
    refine XS.iconst X14.here hx rfl (hb hby at_30) ?_
    show Steps p.tables e below (T14.setTop (mkF m 31 #[.val (.int p1), .val (.ref b2), .unset, .unset, .unset] [(.int (3 : Int32)), (.int p1)])) _
    refine XS.iand X14.here hx rfl (hb hby at_31) rfl ?_
    show Steps p.tables e below (T14.setTop (mkF m 32 #[.val (.int p1), .val (.ref b2), .unset, .unset, .unset] [(.int (p1 &&& (3 : Int32)))])) _
    refine XS.istoreN X14.here hx rfl (hb hby at_32) rfl (l' := #[.val (.int p1), .val (.ref b2), .val (.int (p1 &&& (3 : Int32))), .unset, .unset]) rfl ?_
    show Steps p.tables e below (T14.setTop (mkF m 33 #[.val (.int p1), .val (.ref b2), .val (.int (p1 &&& (3 : Int32))), .unset, .unset] [])) _
    refine XS.aloadN X14.here hx rfl (hb hby at_33) rfl rfl ?_
    show Steps p.tables e below (T14.setTop (mkF m 34 #[.val (.int p1), .val (.ref b2), .val (.int (p1 &&& (3 : Int32))), .unset, .unset] [(.ref b2)])) _
    refine XS.iloadN X14.here hx rfl (hb hby at_34) rfl ?_
    show Steps p.tables e below (T14.setTop (mkF m 35 #[.val (.int p1), .val (.ref b2), .val (.int (p1 &&& (3 : Int32))), .unset, .unset] [(.int (p1 &&& (3 : Int32))), (.ref b2)])) _
    refine X14.aaload hx (j := (p1 &&& (3 : Int32))) (v := (.ref w3)) (by rw [e14]; exact Ar_b2.1) (State.isArrayOf_alike hZ.alike Ar_b2.2.1) rfl Ar_b2.2.2 hin35 hat35 (g := (mkF m 35 #[.val (.int p1), .val (.ref b2), .val (.int (p1 &&& (3 : Int32))), .unset, .unset] [(.int (p1 &&& (3 : Int32))), (.ref b2)])) rfl rfl (hb hby at_35) _ ?_
    show Steps p.tables e below (T14.setTop (mkF m 36 #[.val (.int p1), .val (.ref b2), .val (.int (p1 &&& (3 : Int32))), .unset, .unset] [(.ref w3)])) _
    refine XS.astoreN X14.here hx rfl (hb hby at_36) rfl rfl (l' := #[.val (.int p1), .val (.ref b2), .val (.int (p1 &&& (3 : Int32))), .val (.ref w3), .unset]) rfl ?_
    show Steps p.tables e below (T14.setTop (mkF m 37 #[.val (.int p1), .val (.ref b2), .val (.int (p1 &&& (3 : Int32))), .val (.ref w3), .unset] [])) _
    refine XS.iloadN X14.here hx rfl (hb hby at_37) rfl ?_
    show Steps p.tables e below (T14.setTop (mkF m 38 #[.val (.int p1), .val (.ref b2), .val (.int (p1 &&& (3 : Int32))), .val (.ref w3), .unset] [(.int (p1 &&& (3 : Int32)))])) _
    refine XS.iconst X14.here hx rfl (hb hby at_38) ?_
    show Steps p.tables e below (T14.setTop (mkF m 39 #[.val (.int p1), .val (.ref b2), .val (.int (p1 &&& (3 : Int32))), .val (.ref w3), .unset] [(.int (1 : Int32)), (.int (p1 &&& (3 : Int32)))])) _
    refine XS.icmpNo X14.here hx rfl (hb hby at_39) rfl (feq hc39).1 ?_
    show Steps p.tables e below (T14.setTop (mkF m 42 #[.val (.int p1), .val (.ref b2), .val (.int (p1 &&& (3 : Int32))), .val (.ref w3), .unset] [])) _
    refine XS.iloadN X14.here hx rfl (hb hby at_42) rfl ?_
    show Steps p.tables e below (T14.setTop (mkF m 43 #[.val (.int p1), .val (.ref b2), .val (.int (p1 &&& (3 : Int32))), .val (.ref w3), .unset] [(.int (p1 &&& (3 : Int32)))])) _
    refine XS.iconst X14.here hx rfl (hb hby at_43) ?_
    show Steps p.tables e below (T14.setTop (mkF m 44 #[.val (.int p1), .val (.ref b2), .val (.int (p1 &&& (3 : Int32))), .val (.ref w3), .unset] [(.int (2 : Int32)), (.int (p1 &&& (3 : Int32)))])) _
    refine XS.icmpYes X14.here hx rfl (pc0 := 44) (pc' := 51) rfl (hb hby at_44) rfl (feq hc44).2 (by decide) (by decide) ?_
    show Steps p.tables e below (T14.setTop (mkF m 51 #[.val (.int p1), .val (.ref b2), .val (.int (p1 &&& (3 : Int32))), .val (.ref w3), .unset] [])) _
    refine XS.iconst X14.here hx rfl (hb hby at_51) ?_
    show Steps p.tables e below (T14.setTop (mkF m 52 #[.val (.int p1), .val (.ref b2), .val (.int (p1 &&& (3 : Int32))), .val (.ref w3), .unset] [(.int (0 : Int32))])) _
    refine XS.istore X14.here hx rfl (hb hby at_52) rfl (l' := #[.val (.int p1), .val (.ref b2), .val (.int (p1 &&& (3 : Int32))), .val (.ref w3), .val (.int (0 : Int32))]) rfl ?_
    show Steps p.tables e below (T14.setTop (mkF m 54 #[.val (.int p1), .val (.ref b2), .val (.int (p1 &&& (3 : Int32))), .val (.ref w3), .val (.int (0 : Int32))] [])) _
    refine XS.aloadN X14.here hx rfl (hb hby at_54) rfl rfl ?_
    show Steps p.tables e below (T14.setTop (mkF m 55 #[.val (.int p1), .val (.ref b2), .val (.int (p1 &&& (3 : Int32))), .val (.ref w3), .val (.int (0 : Int32))] [(.ref w3)])) _
    refine st16.trans ?_
    show Steps p.tables e below (T16.setTop (mkF m 58 #[.val (.int p1), .val (.ref b2), .val (.int (p1 &&& (3 : Int32))), .val (.ref w3), .val (.int (0 : Int32))] [(.int (0 : Int32))])) _
    refine XS.iload X16.here hx rfl (hb hby at_58) rfl ?_
    show Steps p.tables e below (T16.setTop (mkF m 60 #[.val (.int p1), .val (.ref b2), .val (.int (p1 &&& (3 : Int32))), .val (.ref w3), .val (.int (0 : Int32))] [(.int (0 : Int32)), (.int (0 : Int32))])) _
    refine XS.icmpNo X16.here hx rfl (hb hby at_60) rfl (teq (rfl : (0 : Int32) = (0 : Int32))).2 ?_
    show Steps p.tables e below (T16.setTop (mkF m 63 #[.val (.int p1), .val (.ref b2), .val (.int (p1 &&& (3 : Int32))), .val (.ref w3), .val (.int (0 : Int32))] [])) _
    refine XS.iconst X16.here hx rfl (hb hby at_63) ?_
    show Steps p.tables e below (T16.setTop (mkF m 64 #[.val (.int p1), .val (.ref b2), .val (.int (p1 &&& (3 : Int32))), .val (.ref w3), .val (.int (0 : Int32))] [(.int (1 : Int32))])) _
    refine XS.goto X16.here hx rfl (pc0 := 64) (pc' := 68) rfl (hb hby at_64) (by decide) (by decide) ?_
    show Steps p.tables e below (T16.setTop (mkF m 68 #[.val (.int p1), .val (.ref b2), .val (.int (p1 &&& (3 : Int32))), .val (.ref w3), .val (.int (0 : Int32))] [(.int (1 : Int32))])) _
    exact retN X16 hx (t := .boolean) Bd.returns (by simp) (hb hby at_68) hr
  · show QL n0 _ T16.heap _
    exact ⟨rfl, N16⟩

set_option maxRecDepth 65536 in
set_option maxHeartbeats 40000000 in
theorem rm0_1 (l : Launch) (Z : State) (a0 : Array Value) (hw : ∀ d ∈ tables_1, d.before a0 Z = true) (ws : List Jvm.Cond) (p1 : Int32) (w3 : Addr) (w6 : Addr) (w9 : Addr) (w12 : Addr) (h0 : Heap) (n0 : Nat) (Z0 : n0 ≤ h0.size) (S_STANDARD : Sta Z h0 "com/example/ratesmith/ratesmith/model/RateKind" "STANDARD" "Lcom/example/ratesmith/ratesmith/model/RateKind;" (.ref w3)) (S_CONTRACT : Sta Z h0 "com/example/ratesmith/ratesmith/model/RateKind" "CONTRACT" "Lcom/example/ratesmith/ratesmith/model/RateKind;" (.ref w6)) (S_BILLING : Sta Z h0 "com/example/ratesmith/ratesmith/model/RateKind" "BILLING" "Lcom/example/ratesmith/ratesmith/model/RateKind;" (.ref w9)) (S_COST : Sta Z h0 "com/example/ratesmith/ratesmith/model/RateKind" "COST" "Lcom/example/ratesmith/ratesmith/model/RateKind;" (.ref w12)) (E_w3 : Exa Z h0 w3 "com/example/ratesmith/ratesmith/model/RateKind") (E_w6 : Exa Z h0 w6 "com/example/ratesmith/ratesmith/model/RateKind") (E_w9 : Exa Z h0 w9 "com/example/ratesmith/ratesmith/model/RateKind") (E_w12 : Exa Z h0 w12 "com/example/ratesmith/ratesmith/model/RateKind") (hk : (p1 &&& (3 : Int32)) = (1 : Int32))  :
    MetFree l x (head1 (Jvm.Cond.code x code maxLocals ret :: ws) room_1) (fun a U => a = #[(.int p1)] ∧ Z.Warmed39 U.vm ∧ U.heap = h0) (fun _ _ _ _ _ => True) (fun _ U o U' => ∃ v L, o = .returned v ∧ QL n0 v U'.heap L ∧ FrameEnd U o U' L room_1.cells room_1.slots) := by
  refine MetFree.of_bodySF (plainFor_of_name pn_0) hisR ?_
  intro p e s m args below meth c s₁ Bd hml0 hP hK
  obtain ⟨rfl, hZ, hh⟩ := hP
  have hx := Bd.exec
  have hby := Bd.bytes
  have hml : c.maxLocals = 5 := hml0
  have hown : s.vm.findClass "com/example/ratesmith/ratesmith/model/RateKindAtTitleBilledPinLaw" = some m.cls := findClass_of_methodNamed Bd.named
  have hnm := (name_of_methodNamed Bd.named Bd.method).1
  have X0 : Stand p l e room_1 s m #[(.int p1)] below meth c s₁ [] 0 0 := Stand.of_body Bd
  have e0 : s₁.heap = h0 := by rw [← hh, Bd.state]; rfl
  have N0 := Fr.nil n0
  have pre0 : ∀ t, Steps p.tables e below (s₁.setTop (mkF m 0 #[.val (.int p1), .unset, .unset, .unset, .unset] [])) t → Steps p.tables e below (s₁.setTop (entryFrame m #[(.int p1)] maxLocals)) t := fun t k => castTop (ef_0 m p1) k

  obtain ⟨T2, h2, k2, X2, e2, E2, A2, O2, st2⟩ := newR X0 hx hZ hown (hw _ (List.mem_of_getElem? (i := 0) rfl)) (hw _ (List.mem_of_getElem? (i := 1) rfl)) e0 (g := (mkF m 1 #[.val (.int p1), .unset, .unset, .unset, .unset] [(.int (4 : Int32))])) rfl (hb hby at_1) rfl (by decide) (cap := 4) (by decide) (by decide) (by decide) (by decide)
  obtain ⟨b2, g2⟩ : ∃ z, z = h0.size := ⟨_, rfl⟩
  rw [← g2] at A2 st2
  have V_b2 : Arv Z h2 b2 k2 (.object "com/example/ratesmith/ratesmith/model/RateKind") (4 : Int32) [.null, .null, .null, .null] .null := (Arv.new A2 (by decide)).pad (pad_rep [] .null 4)
  have g_b2 : n0 ≤ b2 := Nat.le_trans Z0 (Nat.le_of_eq g2.symm)
  have sz_b2 : h0.size ≤ b2 := (Nat.le_trans (Keep.refl h0 []).1 (Nat.le_of_eq g2.symm))
  have K2 : Keep h0 h2 [] := (Keep.refl h0 []).ext E2
  obtain ⟨T4, X4, e4, st4⟩ := getS2 X2 hx hZ hown (host := "") (Or.inl (hw _ (List.mem_of_getElem? (i := 2) rfl))) Via.refl e2 (S_STANDARD.ext E2) (g := (mkF m 6 #[.val (.int p1), .unset, .unset, .unset, .unset] [(.int (0 : Int32)), (.ref b2), (.ref b2)])) rfl (hb hby at_6)


  obtain ⟨cl_5, Ar_b2, q_b2, S_b2, N_b2, H_b2, G_b2⟩ := V_b2
  have hin9 : ¬ ((0 : Int32) < 0 ∨ cl_5.slots.size ≤ (0 : Int32).toNatClampNeg) := inb_of S_b2 ⟨by decide, by decide⟩
  have Sto9 := Sto.ofV Ar_b2 q_b2 O2 (Ins.self (E_w3.ext E2))
  obtain ⟨T5, h5, X5, e5, W5, st5⟩ := stR X4 hx hZ e4 Ar_b2 (j := (0 : Int32)) hin9 rfl Sto9 (g := (mkF m 9 #[.val (.int p1), .unset, .unset, .unset, .unset] [(.ref w3), (.int (0 : Int32)), (.ref b2), (.ref b2)])) rfl rfl (hb hby at_9)
  have V_b2_5 := Arv.set Ar_b2 q_b2 S_b2 N_b2 H_b2 G_b2 rfl W5 0 rfl (Nat.le_of_ble_eq_true rfl)
  have N5 := Fr.snoc X5 N0 g_b2

  have K5 : Keep h0 h5 [] := K2.wr W5 (Or.inr sz_b2)
  obtain ⟨T7, X7, e7, st7⟩ := getS2 X5 hx hZ hown (host := "") (Or.inl (hw _ (List.mem_of_getElem? (i := 6) rfl))) Via.refl e5 ((S_CONTRACT.ext E2).wr W5) (g := (mkF m 12 #[.val (.int p1), .unset, .unset, .unset, .unset] [(.int (1 : Int32)), (.ref b2), (.ref b2)])) rfl (hb hby at_12)


  obtain ⟨cl_8, Ar_b2, q_b2, S_b2, N_b2, H_b2, G_b2⟩ := V_b2_5
  have hin15 : ¬ ((1 : Int32) < 0 ∨ cl_8.slots.size ≤ (1 : Int32).toNatClampNeg) := inb_of S_b2 ⟨by decide, by decide⟩
  have Sto15 := Sto.ofV Ar_b2 q_b2 O2 (Ins.self ((E_w6.ext E2).wr W5))
  obtain ⟨T8, h8, X8, e8, W8, st8⟩ := stR X7 hx hZ e7 Ar_b2 (j := (1 : Int32)) hin15 rfl Sto15 (g := (mkF m 15 #[.val (.int p1), .unset, .unset, .unset, .unset] [(.ref w6), (.int (1 : Int32)), (.ref b2), (.ref b2)])) rfl rfl (hb hby at_15)
  have V_b2_8 := Arv.set Ar_b2 q_b2 S_b2 N_b2 H_b2 G_b2 rfl W8 1 rfl (Nat.le_of_ble_eq_true rfl)
  have N8 := Fr.snoc X8 N5 g_b2

  have K8 : Keep h0 h8 [] := K5.wr W8 (Or.inr sz_b2)
  obtain ⟨T10, X10, e10, st10⟩ := getS2 X8 hx hZ hown (host := "") (Or.inl (hw _ (List.mem_of_getElem? (i := 8) rfl))) Via.refl e8 (((S_BILLING.ext E2).wr W5).wr W8) (g := (mkF m 18 #[.val (.int p1), .unset, .unset, .unset, .unset] [(.int (2 : Int32)), (.ref b2), (.ref b2)])) rfl (hb hby at_18)


  obtain ⟨cl_11, Ar_b2, q_b2, S_b2, N_b2, H_b2, G_b2⟩ := V_b2_8
  have hin21 : ¬ ((2 : Int32) < 0 ∨ cl_11.slots.size ≤ (2 : Int32).toNatClampNeg) := inb_of S_b2 ⟨by decide, by decide⟩
  have Sto21 := Sto.ofV Ar_b2 q_b2 O2 (Ins.self (((E_w9.ext E2).wr W5).wr W8))
  obtain ⟨T11, h11, X11, e11, W11, st11⟩ := stR X10 hx hZ e10 Ar_b2 (j := (2 : Int32)) hin21 rfl Sto21 (g := (mkF m 21 #[.val (.int p1), .unset, .unset, .unset, .unset] [(.ref w9), (.int (2 : Int32)), (.ref b2), (.ref b2)])) rfl rfl (hb hby at_21)
  have V_b2_11 := Arv.set Ar_b2 q_b2 S_b2 N_b2 H_b2 G_b2 rfl W11 2 rfl (Nat.le_of_ble_eq_true rfl)
  have N11 := Fr.snoc X11 N8 g_b2

  have K11 : Keep h0 h11 [] := K8.wr W11 (Or.inr sz_b2)
  obtain ⟨T13, X13, e13, st13⟩ := getS2 X11 hx hZ hown (host := "") (Or.inl (hw _ (List.mem_of_getElem? (i := 10) rfl))) Via.refl e11 ((((S_COST.ext E2).wr W5).wr W8).wr W11) (g := (mkF m 24 #[.val (.int p1), .unset, .unset, .unset, .unset] [(.int (3 : Int32)), (.ref b2), (.ref b2)])) rfl (hb hby at_24)


  obtain ⟨cl_14, Ar_b2, q_b2, S_b2, N_b2, H_b2, G_b2⟩ := V_b2_11
  have hin27 : ¬ ((3 : Int32) < 0 ∨ cl_14.slots.size ≤ (3 : Int32).toNatClampNeg) := inb_of S_b2 ⟨by decide, by decide⟩
  have Sto27 := Sto.ofV Ar_b2 q_b2 O2 (Ins.self ((((E_w12.ext E2).wr W5).wr W8).wr W11))
  obtain ⟨T14, h14, X14, e14, W14, st14⟩ := stR X13 hx hZ e13 Ar_b2 (j := (3 : Int32)) hin27 rfl Sto27 (g := (mkF m 27 #[.val (.int p1), .unset, .unset, .unset, .unset] [(.ref w12), (.int (3 : Int32)), (.ref b2), (.ref b2)])) rfl rfl (hb hby at_27)
  have V_b2_14 := Arv.set Ar_b2 q_b2 S_b2 N_b2 H_b2 G_b2 rfl W14 3 rfl (Nat.le_of_ble_eq_true rfl)
  have N14 := Fr.snoc X14 N11 g_b2

  have K14 : Keep h0 h14 [] := K11.wr W14 (Or.inr sz_b2)
  obtain ⟨cl_e, Ar_b2, q_b2, S_b2, N_b2, H_b2, G_b2⟩ := V_b2_14
  have hin35 : ¬ ((p1 &&& (3 : Int32)) < 0 ∨ cl_e.slots.size ≤ (p1 &&& (3 : Int32)).toNatClampNeg) := by rw [hk]; exact inb_of S_b2 ⟨by decide, by decide⟩
  have hat35 : cl_e.slots[(p1 &&& (3 : Int32)).toNatClampNeg]? = some (.ref w6) := by rw [hk]; exact H_b2.at (inb_of S_b2 ⟨by decide, by decide⟩) rfl
  have hc39 : (p1 &&& (3 : Int32)) = (1 : Int32) := hk
  have Z14 : n0 ≤ h14.size := Nat.le_trans Z0 K14.1
  have S14_CONTRACT := (((((S_CONTRACT.ext E2).wr W5).wr W8).wr W11).wr W14)
  have S14_BILLING := (((((S_BILLING.ext E2).wr W5).wr W8).wr W11).wr W14)


  obtain ⟨cq16, kq16, q16a, q16b, q16c⟩ := isOf hZ e14 (((((E_w6.ext E2).wr W5).wr W8).wr W11).wr W14)
  obtain ⟨_, _, ⟨T16, L16, k16, n16⟩, -, X16, ⟨Lc16, hQ16, l16, y16, z16⟩, st16⟩ := X14.virtualBack hx (y := (⟨"com/example/ratesmith/ratesmith/model/RateKind", "atTitleBilled", "()Z"⟩ : MethodName)) (z := (⟨"com/example/ratesmith/ratesmith/model/RateKind", "atTitleBilled", "()Z"⟩ : MethodName)) hown (mvT hZ (hw _ (List.mem_of_getElem? (i := 12) rfl))) (mvT hZ (hw _ (List.mem_of_getElem? (i := 13) rfl))) (notFace_of_selects (args := #[]) (mvT hZ (hw _ (List.mem_of_getElem? (i := 15) rfl)))) (mvT hZ (hw _ (List.mem_of_getElem? (i := 15) rfl))) (mvT hZ (hw _ (List.mem_of_getElem? (i := 14) rfl))) (by decide) (backOf (W := 0) (rm1_t l Z a0 hw [] w6 w6 h14 n0 Z14 S14_CONTRACT rfl) hZ (hw _ (List.mem_of_getElem? (i := 16) rfl)) (hw _ (List.mem_of_getElem? (i := 3) rfl)) (by decide) (by decide)) q16a q16c (g := (mkF m 55 #[.val (.int p1), .val (.ref b2), .val (.int (p1 &&& (3 : Int32))), .val (.ref w6), .val (.int (1 : Int32))] [(.ref w6)])) rfl (by rw [hml]; rfl) (Steps.refl _) (argsL := []) (rest := []) (lenOf pd_0_0 rfl) rfl (by show 2 * 0 + _ ≤ _; exact Nat.le_of_eq rfl) (hb hby at_55) (fun _ _ => ⟨rfl, e14, (by decide : 1 + 0 ≤ _), (by decide : 4 + 0 ≤ _)⟩)
  dsimp only [Pt.U, Pt.locs, Pt.cells, Pt.slots] at X16 l16 y16 z16 st16 hQ16
  subst l16 y16 z16
  obtain ⟨rfl, N16q, hE⟩ := hQ16
  have N16 := Fr.app N14 N16q
  obtain ⟨fs, hr, hrun, hended, hW, hsame⟩ := X16.leave (v := some (.int (1 : Int32))) (fun h => by rw [Bd.returns] at h; cases h)
  refine ⟨_, _, pre0 _ ?_, hrun, hended, _, _, rfl, ?_, ⟨_, rfl⟩, hW, hsame.mono (by decide) (by decide)⟩

  · show Steps p.tables e below (s₁.setTop (mkF m 0 #[.val (.int p1), .unset, .unset, .unset, .unset] [])) _
    refine XS.iconst X0.here hx rfl (hb hby at_0) ?_
    show Steps p.tables e below (s₁.setTop (mkF m 1 #[.val (.int p1), .unset, .unset, .unset, .unset] [(.int (4 : Int32))])) _
    refine st2 _ ?_
    show Steps p.tables e below (T2.setTop (mkF m 4 #[.val (.int p1), .unset, .unset, .unset, .unset] [(.ref b2)])) _
    refine XS.dup X2.here hx rfl (hb hby at_4) rfl rfl ?_
    show Steps p.tables e below (T2.setTop (mkF m 5 #[.val (.int p1), .unset, .unset, .unset, .unset] [(.ref b2), (.ref b2)])) _
    refine XS.iconst X2.here hx rfl (hb hby at_5) ?_
    show Steps p.tables e below (T2.setTop (mkF m 6 #[.val (.int p1), .unset, .unset, .unset, .unset] [(.int (0 : Int32)), (.ref b2), (.ref b2)])) _
    refine st4 _ ?_
    show Steps p.tables e below (T4.setTop (mkF m 9 #[.val (.int p1), .unset, .unset, .unset, .unset] [(.ref w3), (.int (0 : Int32)), (.ref b2), (.ref b2)])) _
    refine st5 _ ?_
    show Steps p.tables e below (T5.setTop (mkF m 10 #[.val (.int p1), .unset, .unset, .unset, .unset] [(.ref b2)])) _
    refine XS.dup X5.here hx rfl (hb hby at_10) rfl rfl ?_
    show Steps p.tables e below (T5.setTop (mkF m 11 #[.val (.int p1), .unset, .unset, .unset, .unset] [(.ref b2), (.ref b2)])) _
    refine XS.iconst X5.here hx rfl (hb hby at_11) ?_
    show Steps p.tables e below (T5.setTop (mkF m 12 #[.val (.int p1), .unset, .unset, .unset, .unset] [(.int (1 : Int32)), (.ref b2), (.ref b2)])) _
    refine st7 _ ?_
    show Steps p.tables e below (T7.setTop (mkF m 15 #[.val (.int p1), .unset, .unset, .unset, .unset] [(.ref w6), (.int (1 : Int32)), (.ref b2), (.ref b2)])) _
    refine st8 _ ?_
    show Steps p.tables e below (T8.setTop (mkF m 16 #[.val (.int p1), .unset, .unset, .unset, .unset] [(.ref b2)])) _
    refine XS.dup X8.here hx rfl (hb hby at_16) rfl rfl ?_
    show Steps p.tables e below (T8.setTop (mkF m 17 #[.val (.int p1), .unset, .unset, .unset, .unset] [(.ref b2), (.ref b2)])) _
    refine XS.iconst X8.here hx rfl (hb hby at_17) ?_
    show Steps p.tables e below (T8.setTop (mkF m 18 #[.val (.int p1), .unset, .unset, .unset, .unset] [(.int (2 : Int32)), (.ref b2), (.ref b2)])) _
    refine st10 _ ?_
    show Steps p.tables e below (T10.setTop (mkF m 21 #[.val (.int p1), .unset, .unset, .unset, .unset] [(.ref w9), (.int (2 : Int32)), (.ref b2), (.ref b2)])) _
    refine st11 _ ?_
    show Steps p.tables e below (T11.setTop (mkF m 22 #[.val (.int p1), .unset, .unset, .unset, .unset] [(.ref b2)])) _
    refine XS.dup X11.here hx rfl (hb hby at_22) rfl rfl ?_
    show Steps p.tables e below (T11.setTop (mkF m 23 #[.val (.int p1), .unset, .unset, .unset, .unset] [(.ref b2), (.ref b2)])) _
    refine XS.iconst X11.here hx rfl (hb hby at_23) ?_
    show Steps p.tables e below (T11.setTop (mkF m 24 #[.val (.int p1), .unset, .unset, .unset, .unset] [(.int (3 : Int32)), (.ref b2), (.ref b2)])) _
    refine st13 _ ?_
    show Steps p.tables e below (T13.setTop (mkF m 27 #[.val (.int p1), .unset, .unset, .unset, .unset] [(.ref w12), (.int (3 : Int32)), (.ref b2), (.ref b2)])) _
    refine st14 _ ?_
    show Steps p.tables e below (T14.setTop (mkF m 28 #[.val (.int p1), .unset, .unset, .unset, .unset] [(.ref b2)])) _
    refine XS.astoreN X14.here hx rfl (hb hby at_28) rfl rfl (l' := #[.val (.int p1), .val (.ref b2), .unset, .unset, .unset]) rfl ?_
    show Steps p.tables e below (T14.setTop (mkF m 29 #[.val (.int p1), .val (.ref b2), .unset, .unset, .unset] [])) _
    refine XS.iloadN X14.here hx rfl (hb hby at_29) rfl ?_
    show Steps p.tables e below (T14.setTop (mkF m 30 #[.val (.int p1), .val (.ref b2), .unset, .unset, .unset] [(.int p1)])) _
    refine XS.iconst X14.here hx rfl (hb hby at_30) ?_
    show Steps p.tables e below (T14.setTop (mkF m 31 #[.val (.int p1), .val (.ref b2), .unset, .unset, .unset] [(.int (3 : Int32)), (.int p1)])) _
    refine XS.iand X14.here hx rfl (hb hby at_31) rfl ?_
    show Steps p.tables e below (T14.setTop (mkF m 32 #[.val (.int p1), .val (.ref b2), .unset, .unset, .unset] [(.int (p1 &&& (3 : Int32)))])) _
    refine XS.istoreN X14.here hx rfl (hb hby at_32) rfl (l' := #[.val (.int p1), .val (.ref b2), .val (.int (p1 &&& (3 : Int32))), .unset, .unset]) rfl ?_
    show Steps p.tables e below (T14.setTop (mkF m 33 #[.val (.int p1), .val (.ref b2), .val (.int (p1 &&& (3 : Int32))), .unset, .unset] [])) _
    refine XS.aloadN X14.here hx rfl (hb hby at_33) rfl rfl ?_
    show Steps p.tables e below (T14.setTop (mkF m 34 #[.val (.int p1), .val (.ref b2), .val (.int (p1 &&& (3 : Int32))), .unset, .unset] [(.ref b2)])) _
    refine XS.iloadN X14.here hx rfl (hb hby at_34) rfl ?_
    show Steps p.tables e below (T14.setTop (mkF m 35 #[.val (.int p1), .val (.ref b2), .val (.int (p1 &&& (3 : Int32))), .unset, .unset] [(.int (p1 &&& (3 : Int32))), (.ref b2)])) _
    refine X14.aaload hx (j := (p1 &&& (3 : Int32))) (v := (.ref w6)) (by rw [e14]; exact Ar_b2.1) (State.isArrayOf_alike hZ.alike Ar_b2.2.1) rfl Ar_b2.2.2 hin35 hat35 (g := (mkF m 35 #[.val (.int p1), .val (.ref b2), .val (.int (p1 &&& (3 : Int32))), .unset, .unset] [(.int (p1 &&& (3 : Int32))), (.ref b2)])) rfl rfl (hb hby at_35) _ ?_
    show Steps p.tables e below (T14.setTop (mkF m 36 #[.val (.int p1), .val (.ref b2), .val (.int (p1 &&& (3 : Int32))), .unset, .unset] [(.ref w6)])) _
    refine XS.astoreN X14.here hx rfl (hb hby at_36) rfl rfl (l' := #[.val (.int p1), .val (.ref b2), .val (.int (p1 &&& (3 : Int32))), .val (.ref w6), .unset]) rfl ?_
    show Steps p.tables e below (T14.setTop (mkF m 37 #[.val (.int p1), .val (.ref b2), .val (.int (p1 &&& (3 : Int32))), .val (.ref w6), .unset] [])) _
    refine XS.iloadN X14.here hx rfl (hb hby at_37) rfl ?_
    show Steps p.tables e below (T14.setTop (mkF m 38 #[.val (.int p1), .val (.ref b2), .val (.int (p1 &&& (3 : Int32))), .val (.ref w6), .unset] [(.int (p1 &&& (3 : Int32)))])) _
    refine XS.iconst X14.here hx rfl (hb hby at_38) ?_
    show Steps p.tables e below (T14.setTop (mkF m 39 #[.val (.int p1), .val (.ref b2), .val (.int (p1 &&& (3 : Int32))), .val (.ref w6), .unset] [(.int (1 : Int32)), (.int (p1 &&& (3 : Int32)))])) _
    refine XS.icmpYes X14.here hx rfl (pc0 := 39) (pc' := 47) rfl (hb hby at_39) rfl (teq hc39).1 (by decide) (by decide) ?_
    show Steps p.tables e below (T14.setTop (mkF m 47 #[.val (.int p1), .val (.ref b2), .val (.int (p1 &&& (3 : Int32))), .val (.ref w6), .unset] [])) _
    refine XS.iconst X14.here hx rfl (hb hby at_47) ?_
    show Steps p.tables e below (T14.setTop (mkF m 48 #[.val (.int p1), .val (.ref b2), .val (.int (p1 &&& (3 : Int32))), .val (.ref w6), .unset] [(.int (1 : Int32))])) _
    refine XS.goto X14.here hx rfl (pc0 := 48) (pc' := 52) rfl (hb hby at_48) (by decide) (by decide) ?_
    show Steps p.tables e below (T14.setTop (mkF m 52 #[.val (.int p1), .val (.ref b2), .val (.int (p1 &&& (3 : Int32))), .val (.ref w6), .unset] [(.int (1 : Int32))])) _
    refine XS.istore X14.here hx rfl (hb hby at_52) rfl (l' := #[.val (.int p1), .val (.ref b2), .val (.int (p1 &&& (3 : Int32))), .val (.ref w6), .val (.int (1 : Int32))]) rfl ?_
    show Steps p.tables e below (T14.setTop (mkF m 54 #[.val (.int p1), .val (.ref b2), .val (.int (p1 &&& (3 : Int32))), .val (.ref w6), .val (.int (1 : Int32))] [])) _
    refine XS.aloadN X14.here hx rfl (hb hby at_54) rfl rfl ?_
    show Steps p.tables e below (T14.setTop (mkF m 55 #[.val (.int p1), .val (.ref b2), .val (.int (p1 &&& (3 : Int32))), .val (.ref w6), .val (.int (1 : Int32))] [(.ref w6)])) _
    refine st16.trans ?_
    show Steps p.tables e below (T16.setTop (mkF m 58 #[.val (.int p1), .val (.ref b2), .val (.int (p1 &&& (3 : Int32))), .val (.ref w6), .val (.int (1 : Int32))] [(.int (1 : Int32))])) _
    refine XS.iload X16.here hx rfl (hb hby at_58) rfl ?_
    show Steps p.tables e below (T16.setTop (mkF m 60 #[.val (.int p1), .val (.ref b2), .val (.int (p1 &&& (3 : Int32))), .val (.ref w6), .val (.int (1 : Int32))] [(.int (1 : Int32)), (.int (1 : Int32))])) _
    refine XS.icmpNo X16.here hx rfl (hb hby at_60) rfl (teq (rfl : (1 : Int32) = (1 : Int32))).2 ?_
    show Steps p.tables e below (T16.setTop (mkF m 63 #[.val (.int p1), .val (.ref b2), .val (.int (p1 &&& (3 : Int32))), .val (.ref w6), .val (.int (1 : Int32))] [])) _
    refine XS.iconst X16.here hx rfl (hb hby at_63) ?_
    show Steps p.tables e below (T16.setTop (mkF m 64 #[.val (.int p1), .val (.ref b2), .val (.int (p1 &&& (3 : Int32))), .val (.ref w6), .val (.int (1 : Int32))] [(.int (1 : Int32))])) _
    refine XS.goto X16.here hx rfl (pc0 := 64) (pc' := 68) rfl (hb hby at_64) (by decide) (by decide) ?_
    show Steps p.tables e below (T16.setTop (mkF m 68 #[.val (.int p1), .val (.ref b2), .val (.int (p1 &&& (3 : Int32))), .val (.ref w6), .val (.int (1 : Int32))] [(.int (1 : Int32))])) _
    exact retN X16 hx (t := .boolean) Bd.returns (by simp) (hb hby at_68) hr
  · show QL n0 _ T16.heap _
    exact ⟨rfl, N16⟩

set_option maxRecDepth 65536 in
set_option maxHeartbeats 40000000 in
theorem rm0_2 (l : Launch) (Z : State) (a0 : Array Value) (hw : ∀ d ∈ tables_1, d.before a0 Z = true) (ws : List Jvm.Cond) (p1 : Int32) (w3 : Addr) (w6 : Addr) (w9 : Addr) (w12 : Addr) (h0 : Heap) (n0 : Nat) (Z0 : n0 ≤ h0.size) (S_STANDARD : Sta Z h0 "com/example/ratesmith/ratesmith/model/RateKind" "STANDARD" "Lcom/example/ratesmith/ratesmith/model/RateKind;" (.ref w3)) (S_CONTRACT : Sta Z h0 "com/example/ratesmith/ratesmith/model/RateKind" "CONTRACT" "Lcom/example/ratesmith/ratesmith/model/RateKind;" (.ref w6)) (S_BILLING : Sta Z h0 "com/example/ratesmith/ratesmith/model/RateKind" "BILLING" "Lcom/example/ratesmith/ratesmith/model/RateKind;" (.ref w9)) (S_COST : Sta Z h0 "com/example/ratesmith/ratesmith/model/RateKind" "COST" "Lcom/example/ratesmith/ratesmith/model/RateKind;" (.ref w12)) (E_w3 : Exa Z h0 w3 "com/example/ratesmith/ratesmith/model/RateKind") (E_w6 : Exa Z h0 w6 "com/example/ratesmith/ratesmith/model/RateKind") (E_w9 : Exa Z h0 w9 "com/example/ratesmith/ratesmith/model/RateKind") (E_w12 : Exa Z h0 w12 "com/example/ratesmith/ratesmith/model/RateKind") (hk : (p1 &&& (3 : Int32)) = (2 : Int32)) (n1 : ¬ (w9 = w6)) :
    MetFree l x (head1 (Jvm.Cond.code x code maxLocals ret :: ws) room_1) (fun a U => a = #[(.int p1)] ∧ Z.Warmed39 U.vm ∧ U.heap = h0) (fun _ _ _ _ _ => True) (fun _ U o U' => ∃ v L, o = .returned v ∧ QL n0 v U'.heap L ∧ FrameEnd U o U' L room_1.cells room_1.slots) := by
  refine MetFree.of_bodySF (plainFor_of_name pn_0) hisR ?_
  intro p e s m args below meth c s₁ Bd hml0 hP hK
  obtain ⟨rfl, hZ, hh⟩ := hP
  have hx := Bd.exec
  have hby := Bd.bytes
  have hml : c.maxLocals = 5 := hml0
  have hown : s.vm.findClass "com/example/ratesmith/ratesmith/model/RateKindAtTitleBilledPinLaw" = some m.cls := findClass_of_methodNamed Bd.named
  have hnm := (name_of_methodNamed Bd.named Bd.method).1
  have X0 : Stand p l e room_1 s m #[(.int p1)] below meth c s₁ [] 0 0 := Stand.of_body Bd
  have e0 : s₁.heap = h0 := by rw [← hh, Bd.state]; rfl
  have N0 := Fr.nil n0
  have pre0 : ∀ t, Steps p.tables e below (s₁.setTop (mkF m 0 #[.val (.int p1), .unset, .unset, .unset, .unset] [])) t → Steps p.tables e below (s₁.setTop (entryFrame m #[(.int p1)] maxLocals)) t := fun t k => castTop (ef_0 m p1) k

  obtain ⟨T2, h2, k2, X2, e2, E2, A2, O2, st2⟩ := newR X0 hx hZ hown (hw _ (List.mem_of_getElem? (i := 0) rfl)) (hw _ (List.mem_of_getElem? (i := 1) rfl)) e0 (g := (mkF m 1 #[.val (.int p1), .unset, .unset, .unset, .unset] [(.int (4 : Int32))])) rfl (hb hby at_1) rfl (by decide) (cap := 4) (by decide) (by decide) (by decide) (by decide)
  obtain ⟨b2, g2⟩ : ∃ z, z = h0.size := ⟨_, rfl⟩
  rw [← g2] at A2 st2
  have V_b2 : Arv Z h2 b2 k2 (.object "com/example/ratesmith/ratesmith/model/RateKind") (4 : Int32) [.null, .null, .null, .null] .null := (Arv.new A2 (by decide)).pad (pad_rep [] .null 4)
  have g_b2 : n0 ≤ b2 := Nat.le_trans Z0 (Nat.le_of_eq g2.symm)
  have sz_b2 : h0.size ≤ b2 := (Nat.le_trans (Keep.refl h0 []).1 (Nat.le_of_eq g2.symm))
  have K2 : Keep h0 h2 [] := (Keep.refl h0 []).ext E2
  obtain ⟨T4, X4, e4, st4⟩ := getS2 X2 hx hZ hown (host := "") (Or.inl (hw _ (List.mem_of_getElem? (i := 2) rfl))) Via.refl e2 (S_STANDARD.ext E2) (g := (mkF m 6 #[.val (.int p1), .unset, .unset, .unset, .unset] [(.int (0 : Int32)), (.ref b2), (.ref b2)])) rfl (hb hby at_6)


  obtain ⟨cl_5, Ar_b2, q_b2, S_b2, N_b2, H_b2, G_b2⟩ := V_b2
  have hin9 : ¬ ((0 : Int32) < 0 ∨ cl_5.slots.size ≤ (0 : Int32).toNatClampNeg) := inb_of S_b2 ⟨by decide, by decide⟩
  have Sto9 := Sto.ofV Ar_b2 q_b2 O2 (Ins.self (E_w3.ext E2))
  obtain ⟨T5, h5, X5, e5, W5, st5⟩ := stR X4 hx hZ e4 Ar_b2 (j := (0 : Int32)) hin9 rfl Sto9 (g := (mkF m 9 #[.val (.int p1), .unset, .unset, .unset, .unset] [(.ref w3), (.int (0 : Int32)), (.ref b2), (.ref b2)])) rfl rfl (hb hby at_9)
  have V_b2_5 := Arv.set Ar_b2 q_b2 S_b2 N_b2 H_b2 G_b2 rfl W5 0 rfl (Nat.le_of_ble_eq_true rfl)
  have N5 := Fr.snoc X5 N0 g_b2

  have K5 : Keep h0 h5 [] := K2.wr W5 (Or.inr sz_b2)
  obtain ⟨T7, X7, e7, st7⟩ := getS2 X5 hx hZ hown (host := "") (Or.inl (hw _ (List.mem_of_getElem? (i := 6) rfl))) Via.refl e5 ((S_CONTRACT.ext E2).wr W5) (g := (mkF m 12 #[.val (.int p1), .unset, .unset, .unset, .unset] [(.int (1 : Int32)), (.ref b2), (.ref b2)])) rfl (hb hby at_12)


  obtain ⟨cl_8, Ar_b2, q_b2, S_b2, N_b2, H_b2, G_b2⟩ := V_b2_5
  have hin15 : ¬ ((1 : Int32) < 0 ∨ cl_8.slots.size ≤ (1 : Int32).toNatClampNeg) := inb_of S_b2 ⟨by decide, by decide⟩
  have Sto15 := Sto.ofV Ar_b2 q_b2 O2 (Ins.self ((E_w6.ext E2).wr W5))
  obtain ⟨T8, h8, X8, e8, W8, st8⟩ := stR X7 hx hZ e7 Ar_b2 (j := (1 : Int32)) hin15 rfl Sto15 (g := (mkF m 15 #[.val (.int p1), .unset, .unset, .unset, .unset] [(.ref w6), (.int (1 : Int32)), (.ref b2), (.ref b2)])) rfl rfl (hb hby at_15)
  have V_b2_8 := Arv.set Ar_b2 q_b2 S_b2 N_b2 H_b2 G_b2 rfl W8 1 rfl (Nat.le_of_ble_eq_true rfl)
  have N8 := Fr.snoc X8 N5 g_b2

  have K8 : Keep h0 h8 [] := K5.wr W8 (Or.inr sz_b2)
  obtain ⟨T10, X10, e10, st10⟩ := getS2 X8 hx hZ hown (host := "") (Or.inl (hw _ (List.mem_of_getElem? (i := 8) rfl))) Via.refl e8 (((S_BILLING.ext E2).wr W5).wr W8) (g := (mkF m 18 #[.val (.int p1), .unset, .unset, .unset, .unset] [(.int (2 : Int32)), (.ref b2), (.ref b2)])) rfl (hb hby at_18)


  obtain ⟨cl_11, Ar_b2, q_b2, S_b2, N_b2, H_b2, G_b2⟩ := V_b2_8
  have hin21 : ¬ ((2 : Int32) < 0 ∨ cl_11.slots.size ≤ (2 : Int32).toNatClampNeg) := inb_of S_b2 ⟨by decide, by decide⟩
  have Sto21 := Sto.ofV Ar_b2 q_b2 O2 (Ins.self (((E_w9.ext E2).wr W5).wr W8))
  obtain ⟨T11, h11, X11, e11, W11, st11⟩ := stR X10 hx hZ e10 Ar_b2 (j := (2 : Int32)) hin21 rfl Sto21 (g := (mkF m 21 #[.val (.int p1), .unset, .unset, .unset, .unset] [(.ref w9), (.int (2 : Int32)), (.ref b2), (.ref b2)])) rfl rfl (hb hby at_21)
  have V_b2_11 := Arv.set Ar_b2 q_b2 S_b2 N_b2 H_b2 G_b2 rfl W11 2 rfl (Nat.le_of_ble_eq_true rfl)
  have N11 := Fr.snoc X11 N8 g_b2

  have K11 : Keep h0 h11 [] := K8.wr W11 (Or.inr sz_b2)
  obtain ⟨T13, X13, e13, st13⟩ := getS2 X11 hx hZ hown (host := "") (Or.inl (hw _ (List.mem_of_getElem? (i := 10) rfl))) Via.refl e11 ((((S_COST.ext E2).wr W5).wr W8).wr W11) (g := (mkF m 24 #[.val (.int p1), .unset, .unset, .unset, .unset] [(.int (3 : Int32)), (.ref b2), (.ref b2)])) rfl (hb hby at_24)


  obtain ⟨cl_14, Ar_b2, q_b2, S_b2, N_b2, H_b2, G_b2⟩ := V_b2_11
  have hin27 : ¬ ((3 : Int32) < 0 ∨ cl_14.slots.size ≤ (3 : Int32).toNatClampNeg) := inb_of S_b2 ⟨by decide, by decide⟩
  have Sto27 := Sto.ofV Ar_b2 q_b2 O2 (Ins.self ((((E_w12.ext E2).wr W5).wr W8).wr W11))
  obtain ⟨T14, h14, X14, e14, W14, st14⟩ := stR X13 hx hZ e13 Ar_b2 (j := (3 : Int32)) hin27 rfl Sto27 (g := (mkF m 27 #[.val (.int p1), .unset, .unset, .unset, .unset] [(.ref w12), (.int (3 : Int32)), (.ref b2), (.ref b2)])) rfl rfl (hb hby at_27)
  have V_b2_14 := Arv.set Ar_b2 q_b2 S_b2 N_b2 H_b2 G_b2 rfl W14 3 rfl (Nat.le_of_ble_eq_true rfl)
  have N14 := Fr.snoc X14 N11 g_b2

  have K14 : Keep h0 h14 [] := K11.wr W14 (Or.inr sz_b2)
  obtain ⟨cl_e, Ar_b2, q_b2, S_b2, N_b2, H_b2, G_b2⟩ := V_b2_14
  have hin35 : ¬ ((p1 &&& (3 : Int32)) < 0 ∨ cl_e.slots.size ≤ (p1 &&& (3 : Int32)).toNatClampNeg) := by rw [hk]; exact inb_of S_b2 ⟨by decide, by decide⟩
  have hat35 : cl_e.slots[(p1 &&& (3 : Int32)).toNatClampNeg]? = some (.ref w9) := by rw [hk]; exact H_b2.at (inb_of S_b2 ⟨by decide, by decide⟩) rfl
  have hc39 : ¬ ((p1 &&& (3 : Int32)) = (1 : Int32)) := by rw [hk]; decide
  have hc44 : (p1 &&& (3 : Int32)) = (2 : Int32) := hk
  have Z14 : n0 ≤ h14.size := Nat.le_trans Z0 K14.1
  have S14_CONTRACT := (((((S_CONTRACT.ext E2).wr W5).wr W8).wr W11).wr W14)
  have S14_BILLING := (((((S_BILLING.ext E2).wr W5).wr W8).wr W11).wr W14)


  obtain ⟨cq16, kq16, q16a, q16b, q16c⟩ := isOf hZ e14 (((((E_w9.ext E2).wr W5).wr W8).wr W11).wr W14)
  obtain ⟨_, _, ⟨T16, L16, k16, n16⟩, -, X16, ⟨Lc16, hQ16, l16, y16, z16⟩, st16⟩ := X14.virtualBack hx (y := (⟨"com/example/ratesmith/ratesmith/model/RateKind", "atTitleBilled", "()Z"⟩ : MethodName)) (z := (⟨"com/example/ratesmith/ratesmith/model/RateKind", "atTitleBilled", "()Z"⟩ : MethodName)) hown (mvT hZ (hw _ (List.mem_of_getElem? (i := 12) rfl))) (mvT hZ (hw _ (List.mem_of_getElem? (i := 13) rfl))) (notFace_of_selects (args := #[]) (mvT hZ (hw _ (List.mem_of_getElem? (i := 15) rfl)))) (mvT hZ (hw _ (List.mem_of_getElem? (i := 15) rfl))) (mvT hZ (hw _ (List.mem_of_getElem? (i := 14) rfl))) (by decide) (backOf (W := 0) (rm1_ff l Z a0 hw [] w9 w6 w9 h14 n0 Z14 S14_CONTRACT S14_BILLING n1 rfl) hZ (hw _ (List.mem_of_getElem? (i := 16) rfl)) (hw _ (List.mem_of_getElem? (i := 3) rfl)) (by decide) (by decide)) q16a q16c (g := (mkF m 55 #[.val (.int p1), .val (.ref b2), .val (.int (p1 &&& (3 : Int32))), .val (.ref w9), .val (.int (1 : Int32))] [(.ref w9)])) rfl (by rw [hml]; rfl) (Steps.refl _) (argsL := []) (rest := []) (lenOf pd_0_0 rfl) rfl (by show 2 * 0 + _ ≤ _; exact Nat.le_of_eq rfl) (hb hby at_55) (fun _ _ => ⟨rfl, e14, (by decide : 1 + 0 ≤ _), (by decide : 4 + 0 ≤ _)⟩)
  dsimp only [Pt.U, Pt.locs, Pt.cells, Pt.slots] at X16 l16 y16 z16 st16 hQ16
  subst l16 y16 z16
  obtain ⟨rfl, N16q, hE⟩ := hQ16
  have N16 := Fr.app N14 N16q
  obtain ⟨fs, hr, hrun, hended, hW, hsame⟩ := X16.leave (v := some (.int (1 : Int32))) (fun h => by rw [Bd.returns] at h; cases h)
  refine ⟨_, _, pre0 _ ?_, hrun, hended, _, _, rfl, ?_, ⟨_, rfl⟩, hW, hsame.mono (by decide) (by decide)⟩

  · show Steps p.tables e below (s₁.setTop (mkF m 0 #[.val (.int p1), .unset, .unset, .unset, .unset] [])) _
    refine XS.iconst X0.here hx rfl (hb hby at_0) ?_
    show Steps p.tables e below (s₁.setTop (mkF m 1 #[.val (.int p1), .unset, .unset, .unset, .unset] [(.int (4 : Int32))])) _
    refine st2 _ ?_
    show Steps p.tables e below (T2.setTop (mkF m 4 #[.val (.int p1), .unset, .unset, .unset, .unset] [(.ref b2)])) _
    refine XS.dup X2.here hx rfl (hb hby at_4) rfl rfl ?_
    show Steps p.tables e below (T2.setTop (mkF m 5 #[.val (.int p1), .unset, .unset, .unset, .unset] [(.ref b2), (.ref b2)])) _
    refine XS.iconst X2.here hx rfl (hb hby at_5) ?_
    show Steps p.tables e below (T2.setTop (mkF m 6 #[.val (.int p1), .unset, .unset, .unset, .unset] [(.int (0 : Int32)), (.ref b2), (.ref b2)])) _
    refine st4 _ ?_
    show Steps p.tables e below (T4.setTop (mkF m 9 #[.val (.int p1), .unset, .unset, .unset, .unset] [(.ref w3), (.int (0 : Int32)), (.ref b2), (.ref b2)])) _
    refine st5 _ ?_
    show Steps p.tables e below (T5.setTop (mkF m 10 #[.val (.int p1), .unset, .unset, .unset, .unset] [(.ref b2)])) _
    refine XS.dup X5.here hx rfl (hb hby at_10) rfl rfl ?_
    show Steps p.tables e below (T5.setTop (mkF m 11 #[.val (.int p1), .unset, .unset, .unset, .unset] [(.ref b2), (.ref b2)])) _
    refine XS.iconst X5.here hx rfl (hb hby at_11) ?_
    show Steps p.tables e below (T5.setTop (mkF m 12 #[.val (.int p1), .unset, .unset, .unset, .unset] [(.int (1 : Int32)), (.ref b2), (.ref b2)])) _
    refine st7 _ ?_
    show Steps p.tables e below (T7.setTop (mkF m 15 #[.val (.int p1), .unset, .unset, .unset, .unset] [(.ref w6), (.int (1 : Int32)), (.ref b2), (.ref b2)])) _
    refine st8 _ ?_
    show Steps p.tables e below (T8.setTop (mkF m 16 #[.val (.int p1), .unset, .unset, .unset, .unset] [(.ref b2)])) _
    refine XS.dup X8.here hx rfl (hb hby at_16) rfl rfl ?_
    show Steps p.tables e below (T8.setTop (mkF m 17 #[.val (.int p1), .unset, .unset, .unset, .unset] [(.ref b2), (.ref b2)])) _
    refine XS.iconst X8.here hx rfl (hb hby at_17) ?_
    show Steps p.tables e below (T8.setTop (mkF m 18 #[.val (.int p1), .unset, .unset, .unset, .unset] [(.int (2 : Int32)), (.ref b2), (.ref b2)])) _
    refine st10 _ ?_
    show Steps p.tables e below (T10.setTop (mkF m 21 #[.val (.int p1), .unset, .unset, .unset, .unset] [(.ref w9), (.int (2 : Int32)), (.ref b2), (.ref b2)])) _
    refine st11 _ ?_
    show Steps p.tables e below (T11.setTop (mkF m 22 #[.val (.int p1), .unset, .unset, .unset, .unset] [(.ref b2)])) _
    refine XS.dup X11.here hx rfl (hb hby at_22) rfl rfl ?_
    show Steps p.tables e below (T11.setTop (mkF m 23 #[.val (.int p1), .unset, .unset, .unset, .unset] [(.ref b2), (.ref b2)])) _
    refine XS.iconst X11.here hx rfl (hb hby at_23) ?_
    show Steps p.tables e below (T11.setTop (mkF m 24 #[.val (.int p1), .unset, .unset, .unset, .unset] [(.int (3 : Int32)), (.ref b2), (.ref b2)])) _
    refine st13 _ ?_
    show Steps p.tables e below (T13.setTop (mkF m 27 #[.val (.int p1), .unset, .unset, .unset, .unset] [(.ref w12), (.int (3 : Int32)), (.ref b2), (.ref b2)])) _
    refine st14 _ ?_
    show Steps p.tables e below (T14.setTop (mkF m 28 #[.val (.int p1), .unset, .unset, .unset, .unset] [(.ref b2)])) _
    refine XS.astoreN X14.here hx rfl (hb hby at_28) rfl rfl (l' := #[.val (.int p1), .val (.ref b2), .unset, .unset, .unset]) rfl ?_
    show Steps p.tables e below (T14.setTop (mkF m 29 #[.val (.int p1), .val (.ref b2), .unset, .unset, .unset] [])) _
    refine XS.iloadN X14.here hx rfl (hb hby at_29) rfl ?_
    show Steps p.tables e below (T14.setTop (mkF m 30 #[.val (.int p1), .val (.ref b2), .unset, .unset, .unset] [(.int p1)])) _
    refine XS.iconst X14.here hx rfl (hb hby at_30) ?_
    show Steps p.tables e below (T14.setTop (mkF m 31 #[.val (.int p1), .val (.ref b2), .unset, .unset, .unset] [(.int (3 : Int32)), (.int p1)])) _
    refine XS.iand X14.here hx rfl (hb hby at_31) rfl ?_
    show Steps p.tables e below (T14.setTop (mkF m 32 #[.val (.int p1), .val (.ref b2), .unset, .unset, .unset] [(.int (p1 &&& (3 : Int32)))])) _
    refine XS.istoreN X14.here hx rfl (hb hby at_32) rfl (l' := #[.val (.int p1), .val (.ref b2), .val (.int (p1 &&& (3 : Int32))), .unset, .unset]) rfl ?_
    show Steps p.tables e below (T14.setTop (mkF m 33 #[.val (.int p1), .val (.ref b2), .val (.int (p1 &&& (3 : Int32))), .unset, .unset] [])) _
    refine XS.aloadN X14.here hx rfl (hb hby at_33) rfl rfl ?_
    show Steps p.tables e below (T14.setTop (mkF m 34 #[.val (.int p1), .val (.ref b2), .val (.int (p1 &&& (3 : Int32))), .unset, .unset] [(.ref b2)])) _
    refine XS.iloadN X14.here hx rfl (hb hby at_34) rfl ?_
    show Steps p.tables e below (T14.setTop (mkF m 35 #[.val (.int p1), .val (.ref b2), .val (.int (p1 &&& (3 : Int32))), .unset, .unset] [(.int (p1 &&& (3 : Int32))), (.ref b2)])) _
    refine X14.aaload hx (j := (p1 &&& (3 : Int32))) (v := (.ref w9)) (by rw [e14]; exact Ar_b2.1) (State.isArrayOf_alike hZ.alike Ar_b2.2.1) rfl Ar_b2.2.2 hin35 hat35 (g := (mkF m 35 #[.val (.int p1), .val (.ref b2), .val (.int (p1 &&& (3 : Int32))), .unset, .unset] [(.int (p1 &&& (3 : Int32))), (.ref b2)])) rfl rfl (hb hby at_35) _ ?_
    show Steps p.tables e below (T14.setTop (mkF m 36 #[.val (.int p1), .val (.ref b2), .val (.int (p1 &&& (3 : Int32))), .unset, .unset] [(.ref w9)])) _
    refine XS.astoreN X14.here hx rfl (hb hby at_36) rfl rfl (l' := #[.val (.int p1), .val (.ref b2), .val (.int (p1 &&& (3 : Int32))), .val (.ref w9), .unset]) rfl ?_
    show Steps p.tables e below (T14.setTop (mkF m 37 #[.val (.int p1), .val (.ref b2), .val (.int (p1 &&& (3 : Int32))), .val (.ref w9), .unset] [])) _
    refine XS.iloadN X14.here hx rfl (hb hby at_37) rfl ?_
    show Steps p.tables e below (T14.setTop (mkF m 38 #[.val (.int p1), .val (.ref b2), .val (.int (p1 &&& (3 : Int32))), .val (.ref w9), .unset] [(.int (p1 &&& (3 : Int32)))])) _
    refine XS.iconst X14.here hx rfl (hb hby at_38) ?_
    show Steps p.tables e below (T14.setTop (mkF m 39 #[.val (.int p1), .val (.ref b2), .val (.int (p1 &&& (3 : Int32))), .val (.ref w9), .unset] [(.int (1 : Int32)), (.int (p1 &&& (3 : Int32)))])) _
    refine XS.icmpNo X14.here hx rfl (hb hby at_39) rfl (feq hc39).1 ?_
    show Steps p.tables e below (T14.setTop (mkF m 42 #[.val (.int p1), .val (.ref b2), .val (.int (p1 &&& (3 : Int32))), .val (.ref w9), .unset] [])) _
    refine XS.iloadN X14.here hx rfl (hb hby at_42) rfl ?_
    show Steps p.tables e below (T14.setTop (mkF m 43 #[.val (.int p1), .val (.ref b2), .val (.int (p1 &&& (3 : Int32))), .val (.ref w9), .unset] [(.int (p1 &&& (3 : Int32)))])) _
    refine XS.iconst X14.here hx rfl (hb hby at_43) ?_
    show Steps p.tables e below (T14.setTop (mkF m 44 #[.val (.int p1), .val (.ref b2), .val (.int (p1 &&& (3 : Int32))), .val (.ref w9), .unset] [(.int (2 : Int32)), (.int (p1 &&& (3 : Int32)))])) _
    refine XS.icmpNo X14.here hx rfl (hb hby at_44) rfl (teq hc44).2 ?_
    show Steps p.tables e below (T14.setTop (mkF m 47 #[.val (.int p1), .val (.ref b2), .val (.int (p1 &&& (3 : Int32))), .val (.ref w9), .unset] [])) _
    refine XS.iconst X14.here hx rfl (hb hby at_47) ?_
    show Steps p.tables e below (T14.setTop (mkF m 48 #[.val (.int p1), .val (.ref b2), .val (.int (p1 &&& (3 : Int32))), .val (.ref w9), .unset] [(.int (1 : Int32))])) _
    refine XS.goto X14.here hx rfl (pc0 := 48) (pc' := 52) rfl (hb hby at_48) (by decide) (by decide) ?_
    show Steps p.tables e below (T14.setTop (mkF m 52 #[.val (.int p1), .val (.ref b2), .val (.int (p1 &&& (3 : Int32))), .val (.ref w9), .unset] [(.int (1 : Int32))])) _
    refine XS.istore X14.here hx rfl (hb hby at_52) rfl (l' := #[.val (.int p1), .val (.ref b2), .val (.int (p1 &&& (3 : Int32))), .val (.ref w9), .val (.int (1 : Int32))]) rfl ?_
    show Steps p.tables e below (T14.setTop (mkF m 54 #[.val (.int p1), .val (.ref b2), .val (.int (p1 &&& (3 : Int32))), .val (.ref w9), .val (.int (1 : Int32))] [])) _
    refine XS.aloadN X14.here hx rfl (hb hby at_54) rfl rfl ?_
    show Steps p.tables e below (T14.setTop (mkF m 55 #[.val (.int p1), .val (.ref b2), .val (.int (p1 &&& (3 : Int32))), .val (.ref w9), .val (.int (1 : Int32))] [(.ref w9)])) _
    refine st16.trans ?_
    show Steps p.tables e below (T16.setTop (mkF m 58 #[.val (.int p1), .val (.ref b2), .val (.int (p1 &&& (3 : Int32))), .val (.ref w9), .val (.int (1 : Int32))] [(.int (1 : Int32))])) _
    refine XS.iload X16.here hx rfl (hb hby at_58) rfl ?_
    show Steps p.tables e below (T16.setTop (mkF m 60 #[.val (.int p1), .val (.ref b2), .val (.int (p1 &&& (3 : Int32))), .val (.ref w9), .val (.int (1 : Int32))] [(.int (1 : Int32)), (.int (1 : Int32))])) _
    refine XS.icmpNo X16.here hx rfl (hb hby at_60) rfl (teq (rfl : (1 : Int32) = (1 : Int32))).2 ?_
    show Steps p.tables e below (T16.setTop (mkF m 63 #[.val (.int p1), .val (.ref b2), .val (.int (p1 &&& (3 : Int32))), .val (.ref w9), .val (.int (1 : Int32))] [])) _
    refine XS.iconst X16.here hx rfl (hb hby at_63) ?_
    show Steps p.tables e below (T16.setTop (mkF m 64 #[.val (.int p1), .val (.ref b2), .val (.int (p1 &&& (3 : Int32))), .val (.ref w9), .val (.int (1 : Int32))] [(.int (1 : Int32))])) _
    refine XS.goto X16.here hx rfl (pc0 := 64) (pc' := 68) rfl (hb hby at_64) (by decide) (by decide) ?_
    show Steps p.tables e below (T16.setTop (mkF m 68 #[.val (.int p1), .val (.ref b2), .val (.int (p1 &&& (3 : Int32))), .val (.ref w9), .val (.int (1 : Int32))] [(.int (1 : Int32))])) _
    exact retN X16 hx (t := .boolean) Bd.returns (by simp) (hb hby at_68) hr
  · show QL n0 _ T16.heap _
    exact ⟨rfl, N16⟩

set_option maxRecDepth 65536 in
set_option maxHeartbeats 40000000 in
theorem rm0_3 (l : Launch) (Z : State) (a0 : Array Value) (hw : ∀ d ∈ tables_1, d.before a0 Z = true) (ws : List Jvm.Cond) (p1 : Int32) (w3 : Addr) (w6 : Addr) (w9 : Addr) (w12 : Addr) (h0 : Heap) (n0 : Nat) (Z0 : n0 ≤ h0.size) (S_STANDARD : Sta Z h0 "com/example/ratesmith/ratesmith/model/RateKind" "STANDARD" "Lcom/example/ratesmith/ratesmith/model/RateKind;" (.ref w3)) (S_CONTRACT : Sta Z h0 "com/example/ratesmith/ratesmith/model/RateKind" "CONTRACT" "Lcom/example/ratesmith/ratesmith/model/RateKind;" (.ref w6)) (S_BILLING : Sta Z h0 "com/example/ratesmith/ratesmith/model/RateKind" "BILLING" "Lcom/example/ratesmith/ratesmith/model/RateKind;" (.ref w9)) (S_COST : Sta Z h0 "com/example/ratesmith/ratesmith/model/RateKind" "COST" "Lcom/example/ratesmith/ratesmith/model/RateKind;" (.ref w12)) (E_w3 : Exa Z h0 w3 "com/example/ratesmith/ratesmith/model/RateKind") (E_w6 : Exa Z h0 w6 "com/example/ratesmith/ratesmith/model/RateKind") (E_w9 : Exa Z h0 w9 "com/example/ratesmith/ratesmith/model/RateKind") (E_w12 : Exa Z h0 w12 "com/example/ratesmith/ratesmith/model/RateKind") (hk : (p1 &&& (3 : Int32)) = (3 : Int32)) (n1 : ¬ (w12 = w6)) (n2 : ¬ (w12 = w9)) :
    MetFree l x (head1 (Jvm.Cond.code x code maxLocals ret :: ws) room_1) (fun a U => a = #[(.int p1)] ∧ Z.Warmed39 U.vm ∧ U.heap = h0) (fun _ _ _ _ _ => True) (fun _ U o U' => ∃ v L, o = .returned v ∧ QL n0 v U'.heap L ∧ FrameEnd U o U' L room_1.cells room_1.slots) := by
  refine MetFree.of_bodySF (plainFor_of_name pn_0) hisR ?_
  intro p e s m args below meth c s₁ Bd hml0 hP hK
  obtain ⟨rfl, hZ, hh⟩ := hP
  have hx := Bd.exec
  have hby := Bd.bytes
  have hml : c.maxLocals = 5 := hml0
  have hown : s.vm.findClass "com/example/ratesmith/ratesmith/model/RateKindAtTitleBilledPinLaw" = some m.cls := findClass_of_methodNamed Bd.named
  have hnm := (name_of_methodNamed Bd.named Bd.method).1
  have X0 : Stand p l e room_1 s m #[(.int p1)] below meth c s₁ [] 0 0 := Stand.of_body Bd
  have e0 : s₁.heap = h0 := by rw [← hh, Bd.state]; rfl
  have N0 := Fr.nil n0
  have pre0 : ∀ t, Steps p.tables e below (s₁.setTop (mkF m 0 #[.val (.int p1), .unset, .unset, .unset, .unset] [])) t → Steps p.tables e below (s₁.setTop (entryFrame m #[(.int p1)] maxLocals)) t := fun t k => castTop (ef_0 m p1) k

  obtain ⟨T2, h2, k2, X2, e2, E2, A2, O2, st2⟩ := newR X0 hx hZ hown (hw _ (List.mem_of_getElem? (i := 0) rfl)) (hw _ (List.mem_of_getElem? (i := 1) rfl)) e0 (g := (mkF m 1 #[.val (.int p1), .unset, .unset, .unset, .unset] [(.int (4 : Int32))])) rfl (hb hby at_1) rfl (by decide) (cap := 4) (by decide) (by decide) (by decide) (by decide)
  obtain ⟨b2, g2⟩ : ∃ z, z = h0.size := ⟨_, rfl⟩
  rw [← g2] at A2 st2
  have V_b2 : Arv Z h2 b2 k2 (.object "com/example/ratesmith/ratesmith/model/RateKind") (4 : Int32) [.null, .null, .null, .null] .null := (Arv.new A2 (by decide)).pad (pad_rep [] .null 4)
  have g_b2 : n0 ≤ b2 := Nat.le_trans Z0 (Nat.le_of_eq g2.symm)
  have sz_b2 : h0.size ≤ b2 := (Nat.le_trans (Keep.refl h0 []).1 (Nat.le_of_eq g2.symm))
  have K2 : Keep h0 h2 [] := (Keep.refl h0 []).ext E2
  obtain ⟨T4, X4, e4, st4⟩ := getS2 X2 hx hZ hown (host := "") (Or.inl (hw _ (List.mem_of_getElem? (i := 2) rfl))) Via.refl e2 (S_STANDARD.ext E2) (g := (mkF m 6 #[.val (.int p1), .unset, .unset, .unset, .unset] [(.int (0 : Int32)), (.ref b2), (.ref b2)])) rfl (hb hby at_6)


  obtain ⟨cl_5, Ar_b2, q_b2, S_b2, N_b2, H_b2, G_b2⟩ := V_b2
  have hin9 : ¬ ((0 : Int32) < 0 ∨ cl_5.slots.size ≤ (0 : Int32).toNatClampNeg) := inb_of S_b2 ⟨by decide, by decide⟩
  have Sto9 := Sto.ofV Ar_b2 q_b2 O2 (Ins.self (E_w3.ext E2))
  obtain ⟨T5, h5, X5, e5, W5, st5⟩ := stR X4 hx hZ e4 Ar_b2 (j := (0 : Int32)) hin9 rfl Sto9 (g := (mkF m 9 #[.val (.int p1), .unset, .unset, .unset, .unset] [(.ref w3), (.int (0 : Int32)), (.ref b2), (.ref b2)])) rfl rfl (hb hby at_9)
  have V_b2_5 := Arv.set Ar_b2 q_b2 S_b2 N_b2 H_b2 G_b2 rfl W5 0 rfl (Nat.le_of_ble_eq_true rfl)
  have N5 := Fr.snoc X5 N0 g_b2

  have K5 : Keep h0 h5 [] := K2.wr W5 (Or.inr sz_b2)
  obtain ⟨T7, X7, e7, st7⟩ := getS2 X5 hx hZ hown (host := "") (Or.inl (hw _ (List.mem_of_getElem? (i := 6) rfl))) Via.refl e5 ((S_CONTRACT.ext E2).wr W5) (g := (mkF m 12 #[.val (.int p1), .unset, .unset, .unset, .unset] [(.int (1 : Int32)), (.ref b2), (.ref b2)])) rfl (hb hby at_12)


  obtain ⟨cl_8, Ar_b2, q_b2, S_b2, N_b2, H_b2, G_b2⟩ := V_b2_5
  have hin15 : ¬ ((1 : Int32) < 0 ∨ cl_8.slots.size ≤ (1 : Int32).toNatClampNeg) := inb_of S_b2 ⟨by decide, by decide⟩
  have Sto15 := Sto.ofV Ar_b2 q_b2 O2 (Ins.self ((E_w6.ext E2).wr W5))
  obtain ⟨T8, h8, X8, e8, W8, st8⟩ := stR X7 hx hZ e7 Ar_b2 (j := (1 : Int32)) hin15 rfl Sto15 (g := (mkF m 15 #[.val (.int p1), .unset, .unset, .unset, .unset] [(.ref w6), (.int (1 : Int32)), (.ref b2), (.ref b2)])) rfl rfl (hb hby at_15)
  have V_b2_8 := Arv.set Ar_b2 q_b2 S_b2 N_b2 H_b2 G_b2 rfl W8 1 rfl (Nat.le_of_ble_eq_true rfl)
  have N8 := Fr.snoc X8 N5 g_b2

  have K8 : Keep h0 h8 [] := K5.wr W8 (Or.inr sz_b2)
  obtain ⟨T10, X10, e10, st10⟩ := getS2 X8 hx hZ hown (host := "") (Or.inl (hw _ (List.mem_of_getElem? (i := 8) rfl))) Via.refl e8 (((S_BILLING.ext E2).wr W5).wr W8) (g := (mkF m 18 #[.val (.int p1), .unset, .unset, .unset, .unset] [(.int (2 : Int32)), (.ref b2), (.ref b2)])) rfl (hb hby at_18)


  obtain ⟨cl_11, Ar_b2, q_b2, S_b2, N_b2, H_b2, G_b2⟩ := V_b2_8
  have hin21 : ¬ ((2 : Int32) < 0 ∨ cl_11.slots.size ≤ (2 : Int32).toNatClampNeg) := inb_of S_b2 ⟨by decide, by decide⟩
  have Sto21 := Sto.ofV Ar_b2 q_b2 O2 (Ins.self (((E_w9.ext E2).wr W5).wr W8))
  obtain ⟨T11, h11, X11, e11, W11, st11⟩ := stR X10 hx hZ e10 Ar_b2 (j := (2 : Int32)) hin21 rfl Sto21 (g := (mkF m 21 #[.val (.int p1), .unset, .unset, .unset, .unset] [(.ref w9), (.int (2 : Int32)), (.ref b2), (.ref b2)])) rfl rfl (hb hby at_21)
  have V_b2_11 := Arv.set Ar_b2 q_b2 S_b2 N_b2 H_b2 G_b2 rfl W11 2 rfl (Nat.le_of_ble_eq_true rfl)
  have N11 := Fr.snoc X11 N8 g_b2

  have K11 : Keep h0 h11 [] := K8.wr W11 (Or.inr sz_b2)
  obtain ⟨T13, X13, e13, st13⟩ := getS2 X11 hx hZ hown (host := "") (Or.inl (hw _ (List.mem_of_getElem? (i := 10) rfl))) Via.refl e11 ((((S_COST.ext E2).wr W5).wr W8).wr W11) (g := (mkF m 24 #[.val (.int p1), .unset, .unset, .unset, .unset] [(.int (3 : Int32)), (.ref b2), (.ref b2)])) rfl (hb hby at_24)


  obtain ⟨cl_14, Ar_b2, q_b2, S_b2, N_b2, H_b2, G_b2⟩ := V_b2_11
  have hin27 : ¬ ((3 : Int32) < 0 ∨ cl_14.slots.size ≤ (3 : Int32).toNatClampNeg) := inb_of S_b2 ⟨by decide, by decide⟩
  have Sto27 := Sto.ofV Ar_b2 q_b2 O2 (Ins.self ((((E_w12.ext E2).wr W5).wr W8).wr W11))
  obtain ⟨T14, h14, X14, e14, W14, st14⟩ := stR X13 hx hZ e13 Ar_b2 (j := (3 : Int32)) hin27 rfl Sto27 (g := (mkF m 27 #[.val (.int p1), .unset, .unset, .unset, .unset] [(.ref w12), (.int (3 : Int32)), (.ref b2), (.ref b2)])) rfl rfl (hb hby at_27)
  have V_b2_14 := Arv.set Ar_b2 q_b2 S_b2 N_b2 H_b2 G_b2 rfl W14 3 rfl (Nat.le_of_ble_eq_true rfl)
  have N14 := Fr.snoc X14 N11 g_b2

  have K14 : Keep h0 h14 [] := K11.wr W14 (Or.inr sz_b2)
  obtain ⟨cl_e, Ar_b2, q_b2, S_b2, N_b2, H_b2, G_b2⟩ := V_b2_14
  have hin35 : ¬ ((p1 &&& (3 : Int32)) < 0 ∨ cl_e.slots.size ≤ (p1 &&& (3 : Int32)).toNatClampNeg) := by rw [hk]; exact inb_of S_b2 ⟨by decide, by decide⟩
  have hat35 : cl_e.slots[(p1 &&& (3 : Int32)).toNatClampNeg]? = some (.ref w12) := by rw [hk]; exact H_b2.at (inb_of S_b2 ⟨by decide, by decide⟩) rfl
  have hc39 : ¬ ((p1 &&& (3 : Int32)) = (1 : Int32)) := by rw [hk]; decide
  have hc44 : ¬ ((p1 &&& (3 : Int32)) = (2 : Int32)) := by rw [hk]; decide
  have Z14 : n0 ≤ h14.size := Nat.le_trans Z0 K14.1
  have S14_CONTRACT := (((((S_CONTRACT.ext E2).wr W5).wr W8).wr W11).wr W14)
  have S14_BILLING := (((((S_BILLING.ext E2).wr W5).wr W8).wr W11).wr W14)


  obtain ⟨cq16, kq16, q16a, q16b, q16c⟩ := isOf hZ e14 (((((E_w12.ext E2).wr W5).wr W8).wr W11).wr W14)
  obtain ⟨_, _, ⟨T16, L16, k16, n16⟩, -, X16, ⟨Lc16, hQ16, l16, y16, z16⟩, st16⟩ := X14.virtualBack hx (y := (⟨"com/example/ratesmith/ratesmith/model/RateKind", "atTitleBilled", "()Z"⟩ : MethodName)) (z := (⟨"com/example/ratesmith/ratesmith/model/RateKind", "atTitleBilled", "()Z"⟩ : MethodName)) hown (mvT hZ (hw _ (List.mem_of_getElem? (i := 12) rfl))) (mvT hZ (hw _ (List.mem_of_getElem? (i := 13) rfl))) (notFace_of_selects (args := #[]) (mvT hZ (hw _ (List.mem_of_getElem? (i := 15) rfl)))) (mvT hZ (hw _ (List.mem_of_getElem? (i := 15) rfl))) (mvT hZ (hw _ (List.mem_of_getElem? (i := 14) rfl))) (by decide) (backOf (W := 0) (rm1_ft l Z a0 hw [] w12 w6 w9 h14 n0 Z14 S14_CONTRACT S14_BILLING n1 n2) hZ (hw _ (List.mem_of_getElem? (i := 16) rfl)) (hw _ (List.mem_of_getElem? (i := 3) rfl)) (by decide) (by decide)) q16a q16c (g := (mkF m 55 #[.val (.int p1), .val (.ref b2), .val (.int (p1 &&& (3 : Int32))), .val (.ref w12), .val (.int (0 : Int32))] [(.ref w12)])) rfl (by rw [hml]; rfl) (Steps.refl _) (argsL := []) (rest := []) (lenOf pd_0_0 rfl) rfl (by show 2 * 0 + _ ≤ _; exact Nat.le_of_eq rfl) (hb hby at_55) (fun _ _ => ⟨rfl, e14, (by decide : 1 + 0 ≤ _), (by decide : 4 + 0 ≤ _)⟩)
  dsimp only [Pt.U, Pt.locs, Pt.cells, Pt.slots] at X16 l16 y16 z16 st16 hQ16
  subst l16 y16 z16
  obtain ⟨rfl, N16q, hE⟩ := hQ16
  have N16 := Fr.app N14 N16q
  obtain ⟨fs, hr, hrun, hended, hW, hsame⟩ := X16.leave (v := some (.int (1 : Int32))) (fun h => by rw [Bd.returns] at h; cases h)
  refine ⟨_, _, pre0 _ ?_, hrun, hended, _, _, rfl, ?_, ⟨_, rfl⟩, hW, hsame.mono (by decide) (by decide)⟩

  · show Steps p.tables e below (s₁.setTop (mkF m 0 #[.val (.int p1), .unset, .unset, .unset, .unset] [])) _
    refine XS.iconst X0.here hx rfl (hb hby at_0) ?_
    show Steps p.tables e below (s₁.setTop (mkF m 1 #[.val (.int p1), .unset, .unset, .unset, .unset] [(.int (4 : Int32))])) _
    refine st2 _ ?_
    show Steps p.tables e below (T2.setTop (mkF m 4 #[.val (.int p1), .unset, .unset, .unset, .unset] [(.ref b2)])) _
    refine XS.dup X2.here hx rfl (hb hby at_4) rfl rfl ?_
    show Steps p.tables e below (T2.setTop (mkF m 5 #[.val (.int p1), .unset, .unset, .unset, .unset] [(.ref b2), (.ref b2)])) _
    refine XS.iconst X2.here hx rfl (hb hby at_5) ?_
    show Steps p.tables e below (T2.setTop (mkF m 6 #[.val (.int p1), .unset, .unset, .unset, .unset] [(.int (0 : Int32)), (.ref b2), (.ref b2)])) _
    refine st4 _ ?_
    show Steps p.tables e below (T4.setTop (mkF m 9 #[.val (.int p1), .unset, .unset, .unset, .unset] [(.ref w3), (.int (0 : Int32)), (.ref b2), (.ref b2)])) _
    refine st5 _ ?_
    show Steps p.tables e below (T5.setTop (mkF m 10 #[.val (.int p1), .unset, .unset, .unset, .unset] [(.ref b2)])) _
    refine XS.dup X5.here hx rfl (hb hby at_10) rfl rfl ?_
    show Steps p.tables e below (T5.setTop (mkF m 11 #[.val (.int p1), .unset, .unset, .unset, .unset] [(.ref b2), (.ref b2)])) _
    refine XS.iconst X5.here hx rfl (hb hby at_11) ?_
    show Steps p.tables e below (T5.setTop (mkF m 12 #[.val (.int p1), .unset, .unset, .unset, .unset] [(.int (1 : Int32)), (.ref b2), (.ref b2)])) _
    refine st7 _ ?_
    show Steps p.tables e below (T7.setTop (mkF m 15 #[.val (.int p1), .unset, .unset, .unset, .unset] [(.ref w6), (.int (1 : Int32)), (.ref b2), (.ref b2)])) _
    refine st8 _ ?_
    show Steps p.tables e below (T8.setTop (mkF m 16 #[.val (.int p1), .unset, .unset, .unset, .unset] [(.ref b2)])) _
    refine XS.dup X8.here hx rfl (hb hby at_16) rfl rfl ?_
    show Steps p.tables e below (T8.setTop (mkF m 17 #[.val (.int p1), .unset, .unset, .unset, .unset] [(.ref b2), (.ref b2)])) _
    refine XS.iconst X8.here hx rfl (hb hby at_17) ?_
    show Steps p.tables e below (T8.setTop (mkF m 18 #[.val (.int p1), .unset, .unset, .unset, .unset] [(.int (2 : Int32)), (.ref b2), (.ref b2)])) _
    refine st10 _ ?_
    show Steps p.tables e below (T10.setTop (mkF m 21 #[.val (.int p1), .unset, .unset, .unset, .unset] [(.ref w9), (.int (2 : Int32)), (.ref b2), (.ref b2)])) _
    refine st11 _ ?_
    show Steps p.tables e below (T11.setTop (mkF m 22 #[.val (.int p1), .unset, .unset, .unset, .unset] [(.ref b2)])) _
    refine XS.dup X11.here hx rfl (hb hby at_22) rfl rfl ?_
    show Steps p.tables e below (T11.setTop (mkF m 23 #[.val (.int p1), .unset, .unset, .unset, .unset] [(.ref b2), (.ref b2)])) _
    refine XS.iconst X11.here hx rfl (hb hby at_23) ?_
    show Steps p.tables e below (T11.setTop (mkF m 24 #[.val (.int p1), .unset, .unset, .unset, .unset] [(.int (3 : Int32)), (.ref b2), (.ref b2)])) _
    refine st13 _ ?_
    show Steps p.tables e below (T13.setTop (mkF m 27 #[.val (.int p1), .unset, .unset, .unset, .unset] [(.ref w12), (.int (3 : Int32)), (.ref b2), (.ref b2)])) _
    refine st14 _ ?_
    show Steps p.tables e below (T14.setTop (mkF m 28 #[.val (.int p1), .unset, .unset, .unset, .unset] [(.ref b2)])) _
    refine XS.astoreN X14.here hx rfl (hb hby at_28) rfl rfl (l' := #[.val (.int p1), .val (.ref b2), .unset, .unset, .unset]) rfl ?_
    show Steps p.tables e below (T14.setTop (mkF m 29 #[.val (.int p1), .val (.ref b2), .unset, .unset, .unset] [])) _
    refine XS.iloadN X14.here hx rfl (hb hby at_29) rfl ?_
    show Steps p.tables e below (T14.setTop (mkF m 30 #[.val (.int p1), .val (.ref b2), .unset, .unset, .unset] [(.int p1)])) _
    refine XS.iconst X14.here hx rfl (hb hby at_30) ?_
    show Steps p.tables e below (T14.setTop (mkF m 31 #[.val (.int p1), .val (.ref b2), .unset, .unset, .unset] [(.int (3 : Int32)), (.int p1)])) _
    refine XS.iand X14.here hx rfl (hb hby at_31) rfl ?_
    show Steps p.tables e below (T14.setTop (mkF m 32 #[.val (.int p1), .val (.ref b2), .unset, .unset, .unset] [(.int (p1 &&& (3 : Int32)))])) _
    refine XS.istoreN X14.here hx rfl (hb hby at_32) rfl (l' := #[.val (.int p1), .val (.ref b2), .val (.int (p1 &&& (3 : Int32))), .unset, .unset]) rfl ?_
    show Steps p.tables e below (T14.setTop (mkF m 33 #[.val (.int p1), .val (.ref b2), .val (.int (p1 &&& (3 : Int32))), .unset, .unset] [])) _
    refine XS.aloadN X14.here hx rfl (hb hby at_33) rfl rfl ?_
    show Steps p.tables e below (T14.setTop (mkF m 34 #[.val (.int p1), .val (.ref b2), .val (.int (p1 &&& (3 : Int32))), .unset, .unset] [(.ref b2)])) _
    refine XS.iloadN X14.here hx rfl (hb hby at_34) rfl ?_
    show Steps p.tables e below (T14.setTop (mkF m 35 #[.val (.int p1), .val (.ref b2), .val (.int (p1 &&& (3 : Int32))), .unset, .unset] [(.int (p1 &&& (3 : Int32))), (.ref b2)])) _
    refine X14.aaload hx (j := (p1 &&& (3 : Int32))) (v := (.ref w12)) (by rw [e14]; exact Ar_b2.1) (State.isArrayOf_alike hZ.alike Ar_b2.2.1) rfl Ar_b2.2.2 hin35 hat35 (g := (mkF m 35 #[.val (.int p1), .val (.ref b2), .val (.int (p1 &&& (3 : Int32))), .unset, .unset] [(.int (p1 &&& (3 : Int32))), (.ref b2)])) rfl rfl (hb hby at_35) _ ?_
    show Steps p.tables e below (T14.setTop (mkF m 36 #[.val (.int p1), .val (.ref b2), .val (.int (p1 &&& (3 : Int32))), .unset, .unset] [(.ref w12)])) _
    refine XS.astoreN X14.here hx rfl (hb hby at_36) rfl rfl (l' := #[.val (.int p1), .val (.ref b2), .val (.int (p1 &&& (3 : Int32))), .val (.ref w12), .unset]) rfl ?_
    show Steps p.tables e below (T14.setTop (mkF m 37 #[.val (.int p1), .val (.ref b2), .val (.int (p1 &&& (3 : Int32))), .val (.ref w12), .unset] [])) _
    refine XS.iloadN X14.here hx rfl (hb hby at_37) rfl ?_
    show Steps p.tables e below (T14.setTop (mkF m 38 #[.val (.int p1), .val (.ref b2), .val (.int (p1 &&& (3 : Int32))), .val (.ref w12), .unset] [(.int (p1 &&& (3 : Int32)))])) _
    refine XS.iconst X14.here hx rfl (hb hby at_38) ?_
    show Steps p.tables e below (T14.setTop (mkF m 39 #[.val (.int p1), .val (.ref b2), .val (.int (p1 &&& (3 : Int32))), .val (.ref w12), .unset] [(.int (1 : Int32)), (.int (p1 &&& (3 : Int32)))])) _
    refine XS.icmpNo X14.here hx rfl (hb hby at_39) rfl (feq hc39).1 ?_
    show Steps p.tables e below (T14.setTop (mkF m 42 #[.val (.int p1), .val (.ref b2), .val (.int (p1 &&& (3 : Int32))), .val (.ref w12), .unset] [])) _
    refine XS.iloadN X14.here hx rfl (hb hby at_42) rfl ?_
    show Steps p.tables e below (T14.setTop (mkF m 43 #[.val (.int p1), .val (.ref b2), .val (.int (p1 &&& (3 : Int32))), .val (.ref w12), .unset] [(.int (p1 &&& (3 : Int32)))])) _
    refine XS.iconst X14.here hx rfl (hb hby at_43) ?_
    show Steps p.tables e below (T14.setTop (mkF m 44 #[.val (.int p1), .val (.ref b2), .val (.int (p1 &&& (3 : Int32))), .val (.ref w12), .unset] [(.int (2 : Int32)), (.int (p1 &&& (3 : Int32)))])) _
    refine XS.icmpYes X14.here hx rfl (pc0 := 44) (pc' := 51) rfl (hb hby at_44) rfl (feq hc44).2 (by decide) (by decide) ?_
    show Steps p.tables e below (T14.setTop (mkF m 51 #[.val (.int p1), .val (.ref b2), .val (.int (p1 &&& (3 : Int32))), .val (.ref w12), .unset] [])) _
    refine XS.iconst X14.here hx rfl (hb hby at_51) ?_
    show Steps p.tables e below (T14.setTop (mkF m 52 #[.val (.int p1), .val (.ref b2), .val (.int (p1 &&& (3 : Int32))), .val (.ref w12), .unset] [(.int (0 : Int32))])) _
    refine XS.istore X14.here hx rfl (hb hby at_52) rfl (l' := #[.val (.int p1), .val (.ref b2), .val (.int (p1 &&& (3 : Int32))), .val (.ref w12), .val (.int (0 : Int32))]) rfl ?_
    show Steps p.tables e below (T14.setTop (mkF m 54 #[.val (.int p1), .val (.ref b2), .val (.int (p1 &&& (3 : Int32))), .val (.ref w12), .val (.int (0 : Int32))] [])) _
    refine XS.aloadN X14.here hx rfl (hb hby at_54) rfl rfl ?_
    show Steps p.tables e below (T14.setTop (mkF m 55 #[.val (.int p1), .val (.ref b2), .val (.int (p1 &&& (3 : Int32))), .val (.ref w12), .val (.int (0 : Int32))] [(.ref w12)])) _
    refine st16.trans ?_
    show Steps p.tables e below (T16.setTop (mkF m 58 #[.val (.int p1), .val (.ref b2), .val (.int (p1 &&& (3 : Int32))), .val (.ref w12), .val (.int (0 : Int32))] [(.int (0 : Int32))])) _
    refine XS.iload X16.here hx rfl (hb hby at_58) rfl ?_
    show Steps p.tables e below (T16.setTop (mkF m 60 #[.val (.int p1), .val (.ref b2), .val (.int (p1 &&& (3 : Int32))), .val (.ref w12), .val (.int (0 : Int32))] [(.int (0 : Int32)), (.int (0 : Int32))])) _
    refine XS.icmpNo X16.here hx rfl (hb hby at_60) rfl (teq (rfl : (0 : Int32) = (0 : Int32))).2 ?_
    show Steps p.tables e below (T16.setTop (mkF m 63 #[.val (.int p1), .val (.ref b2), .val (.int (p1 &&& (3 : Int32))), .val (.ref w12), .val (.int (0 : Int32))] [])) _
    refine XS.iconst X16.here hx rfl (hb hby at_63) ?_
    show Steps p.tables e below (T16.setTop (mkF m 64 #[.val (.int p1), .val (.ref b2), .val (.int (p1 &&& (3 : Int32))), .val (.ref w12), .val (.int (0 : Int32))] [(.int (1 : Int32))])) _
    refine XS.goto X16.here hx rfl (pc0 := 64) (pc' := 68) rfl (hb hby at_64) (by decide) (by decide) ?_
    show Steps p.tables e below (T16.setTop (mkF m 68 #[.val (.int p1), .val (.ref b2), .val (.int (p1 &&& (3 : Int32))), .val (.ref w12), .val (.int (0 : Int32))] [(.int (1 : Int32))])) _
    exact retN X16 hx (t := .boolean) Bd.returns (by simp) (hb hby at_68) hr
  · show QL n0 _ T16.heap _
    exact ⟨rfl, N16⟩

theorem own_four (p : Int32) : (p &&& (3 : Int32)) = 0 ∨ (p &&& (3 : Int32)) = 1 ∨ (p &&& (3 : Int32)) = 2 ∨ (p &&& (3 : Int32)) = 3 := by
  have e1 : (p &&& (3 : Int32)).toInt = p.toInt % 2 ^ 2 := Jvm.Kit.i32_mask p 3 (k := 2) (by decide) (by decide)
  generalize p &&& (3 : Int32) = k at *
  simp only [← Int32.toInt_inj]
  have z0 : (0 : Int32).toInt = 0 := rfl
  have z1 : (1 : Int32).toInt = 1 := rfl
  have z2 : (2 : Int32).toInt = 2 := rfl
  have z3 : (3 : Int32).toInt = 3 := rfl
  rw [z0, z1, z2, z3]
  omega
set_option maxRecDepth 65536 in
set_option maxHeartbeats 40000000 in
theorem comes_1 {Post : Tables → Env → Array Value → State → Outcome → State → Prop} (hpost : ∀ tb e args s v u, (limb_1_1.after args s (.returned v) u = true ∧ limb_1_2.after args s (.returned v) u = true ∧ True) → FrameEnd s (.returned v) u (Jvm.fieldLocs frame_1_writes args s ++ Jvm.arrayLocs frame_1_arrays args s ++ Jvm.staticLocs frame_1_statics s) 16 128 → Post tb e args s (.returned v) u) :
    ArmFor flags0 classFile x code maxLocals ret World_1 tables_1 room_1 Calls_1 rest_1 Pre_1 Post := by
  intro l hfl _ _ p e ha hc hk s m args below hf hA hF happ hP
  obtain ⟨hcalls, hrest, hpre⟩ := hP
  obtain ⟨-, -, -, hnamed, -, -, -, hat⟩ := (Spec.applies_iff hf).mp happ
  obtain ⟨hg, hn⟩ := and_e (Cond.before_iff.mp (show (Jvm.Cond.and given_1 narrow_1).before args s = true from hpre))
  obtain ⟨g17, g18⟩ := and_e hg
  obtain ⟨w0, rfl⟩ : ∃ w0 : Value, args = #[w0] := by
    have hs : args.size = 1 := by simpa [Cond.value, given_1] using g17
    obtain ⟨L⟩ := args
    match L, hs with
    | [w0], _ => exact ⟨w0, rfl⟩
  have hw := fun d (hd : d ∈ tables_1) => atoms_spec (ws := Jvm.Cond.code x code maxLocals ret :: tables_1) hat d (List.mem_cons_of_mem _ hd)
  have hfit : Fit s := fun {y c} hc i hi => by
    obtain ⟨ha, rfl⟩ := Array.getElem?_eq_some_iff.mp hc
    have q := List.all_eq_true.mp ((Array.all_eq_true_iff_forall_mem.mp hF) _ (Array.getElem_mem ha)) i (List.mem_range.mpr hi)
    simpa [Array.getElem?_eq_getElem hi] using q
  obtain ⟨i0, ei0⟩ := is_v g18
  obtain rfl : w0 = (.int i0) := Option.some.inj ei0
  obtain ⟨c0, hn1⟩ := and_e hn
  obtain ⟨c1, hn2⟩ := and_e hn1
  obtain ⟨c2, hn3⟩ := and_e hn2
  obtain ⟨c3, hn4⟩ := and_e hn3
  obtain ⟨c4, hn5⟩ := and_e hn4
  obtain ⟨c5, hn6⟩ := and_e hn5
  obtain ⟨c6, hn7⟩ := and_e hn6
  have c7 := hn7
  obtain ⟨a_STANDARD, ea_STANDARD⟩ := exa_v c0
  have E_STANDARD := Exa.start ea_STANDARD c0
  have S_STANDARD := Sta.start ea_STANDARD (Or.inr ⟨(hw _ (List.mem_of_getElem? (i := 3) rfl)), (hw _ (List.mem_of_getElem? (i := 4) rfl))⟩)
  obtain ⟨a_CONTRACT, ea_CONTRACT⟩ := exa_v c1
  have E_CONTRACT := Exa.start ea_CONTRACT c1
  have S_CONTRACT := Sta.start ea_CONTRACT (Or.inr ⟨(hw _ (List.mem_of_getElem? (i := 3) rfl)), (hw _ (List.mem_of_getElem? (i := 7) rfl))⟩)
  obtain ⟨a_BILLING, ea_BILLING⟩ := exa_v c2
  have E_BILLING := Exa.start ea_BILLING c2
  have S_BILLING := Sta.start ea_BILLING (Or.inr ⟨(hw _ (List.mem_of_getElem? (i := 3) rfl)), (hw _ (List.mem_of_getElem? (i := 9) rfl))⟩)
  obtain ⟨a_COST, ea_COST⟩ := exa_v c3
  have E_COST := Exa.start ea_COST c3
  have S_COST := Sta.start ea_COST (Or.inr ⟨(hw _ (List.mem_of_getElem? (i := 3) rfl)), (hw _ (List.mem_of_getElem? (i := 11) rfl))⟩)
  have F_STANDARD_ordinal := Fld.start ((fld_at ea_STANDARD).symm.trans (own_eqi c4))
  have F_CONTRACT_ordinal := Fld.start ((fld_at ea_CONTRACT).symm.trans (own_eqi c5))
  have F_BILLING_ordinal := Fld.start ((fld_at ea_BILLING).symm.trans (own_eqi c6))
  have F_COST_ordinal := Fld.start ((fld_at ea_COST).symm.trans (own_eqi c7))
  have ne_STANDARD_CONTRACT : ¬ (a_STANDARD = a_CONTRACT) := Fld.ne F_STANDARD_ordinal F_CONTRACT_ordinal (by decide)
  have ne_STANDARD_BILLING : ¬ (a_STANDARD = a_BILLING) := Fld.ne F_STANDARD_ordinal F_BILLING_ordinal (by decide)
  have ne_COST_CONTRACT : ¬ (a_COST = a_CONTRACT) := Fld.ne F_COST_ordinal F_CONTRACT_ordinal (by decide)
  have ne_COST_BILLING : ¬ (a_COST = a_BILLING) := Fld.ne F_COST_ordinal F_BILLING_ordinal (by decide)
  have ne_BILLING_CONTRACT : ¬ (a_BILLING = a_CONTRACT) := Fld.ne F_BILLING_ordinal F_CONTRACT_ordinal (by decide)
  have R : MetFree l x (head1 (Jvm.Cond.code x code maxLocals ret :: tables_1) room_1) (fun a U => a = #[(.int i0)] ∧ s.Warmed39 U.vm ∧ U.heap = s.heap) (fun _ _ _ _ _ => True) (fun _ U o U' => ∃ v L, o = .returned v ∧ QL s.heap.size v U'.heap L ∧ FrameEnd U o U' L room_1.cells room_1.slots) := by
    rcases own_four i0 with k | k | k | k
    · exact (rm0_0 l s _ hw tables_1 i0 a_STANDARD a_CONTRACT a_BILLING a_COST s.heap s.heap.size (Nat.le_refl _) S_STANDARD S_CONTRACT S_BILLING S_COST E_STANDARD E_CONTRACT E_BILLING E_COST k ne_STANDARD_CONTRACT ne_STANDARD_BILLING)
    · exact (rm0_1 l s _ hw tables_1 i0 a_STANDARD a_CONTRACT a_BILLING a_COST s.heap s.heap.size (Nat.le_refl _) S_STANDARD S_CONTRACT S_BILLING S_COST E_STANDARD E_CONTRACT E_BILLING E_COST k)
    · exact (rm0_2 l s _ hw tables_1 i0 a_STANDARD a_CONTRACT a_BILLING a_COST s.heap s.heap.size (Nat.le_refl _) S_STANDARD S_CONTRACT S_BILLING S_COST E_STANDARD E_CONTRACT E_BILLING E_COST k ne_BILLING_CONTRACT)
    · exact (rm0_3 l s _ hw tables_1 i0 a_STANDARD a_CONTRACT a_BILLING a_COST s.heap s.heap.size (Nat.le_refl _) S_STANDARD S_CONTRACT S_BILLING S_COST E_STANDARD E_CONTRACT E_BILLING E_COST k ne_COST_CONTRACT ne_COST_BILLING)
  obtain ⟨n, o, h1, h2, h3, _, L, rfl, ⟨rfl, N⟩, hq⟩ := (R) p e ha hc hk s m _ below hf ((Spec.applies_iff_loose hf).mp happ).1 ⟨rfl, State.Warmed39.refl s, rfl⟩ trivial
  refine ⟨n, _, h1, h2, h3, hpost _ _ _ _ _ _ ⟨Cond.after_iff.mpr rfl, Cond.after_iff.mpr (eq_i res_at (Term.int_eval (1)) rfl), trivial⟩ ⟨hq.1, hq.2.1, (hq.2.2.sift fun y hy => Or.inr (N y hy)).mono (by decide) (by decide)⟩⟩
theorem main_1_1 : Claimed_1_1 := comes_1 fun _ _ _ _ _ _ h hF => ⟨h.1, hF⟩
theorem main_1_2 : Claimed_1_2 := comes_1 fun _ _ _ _ _ _ h hF => ⟨h.2.1, hF⟩

end Jvm.Pilot.@@N@@
namespace Jvm.Pilot.@@N@@
open Jvm Jvm.ClassFile Sem Op Lib Jvm.Free Jvm.Stand Jvm.Pilot.@@N@@.Jvm.D
/-! MADE BY PROGRAM (witnessworld.py) out of the Statement's table words and the real class files: 13 classes; the members and pool entries that the words name. The judged class is class 1, her method 1. -/
namespace start1
open Jvm.ClassFile
def u (s : String) : CpInfo := .utf8 (stringToUtf16 s)
/-- a pool by its gaps: so many unusable entries, then the entry; so many at the end -/
def gap : Nat → List CpInfo → List CpInfo
  | 0, r => r
  | n + 1, r => .unusable :: gap n r
def poolList (es : List (Nat × CpInfo)) (last : Nat) : List CpInfo := es.foldr (fun e r => gap e.1 (e.2 :: r)) (gap last [])
def pool (es : List (Nat × CpInfo)) (last : Nat) : Array CpInfo := ⟨poolList es last⟩
def fileOf (pool : Array CpInfo) (this : Nat) (attrs : Array Attribute := #[]) (ms : Array MethodInfo := #[]) (fl : Nat := 33) (sup : Nat := 0) (ifs : Array Nat := #[]) (fds : Array FieldInfo := #[]) : ClassFile where
  minorVersion := 0
  majorVersion := 65
  constantPool := pool
  accessFlags := fl
  thisClass := this
  superClass := sup
  interfaces := ifs
  fields := fds
  methods := ms
  attributes := attrs
def plain (name : String) (sup : Option ClassId) : Class where
  name := name
  kind := .ordinary
  loader := none
  accessFlags := 33
  super := sup
  interfaces := #[]
  cf := none
  fields := #[]
  methods := #[]
  instanceTypes := #[]
  staticTypes := #[]
  resolved := #[]
  callSites := []
  init := .initialized
  statics := none
  mirror := none

def pool0 : Array CpInfo := pool [(5, u "<init>"), (0, u "()V"), (1, .class_ 10), (1, u "java/lang/Object")] 113

def k0m0 : Method := { name := "<init>", desc := "()V", sig := { parameters := [], returnType := none }, accessFlags := 1, code := none }
/-- java/lang/Object -/
def k0 : Class := { plain "java/lang/Object" none with
  accessFlags := 33
  interfaces := #[]
  cf := some (fileOf pool0 8 #[] #[{ accessFlags := 1, nameIndex := 5, descriptorIndex := 6, attributes := #[] }] 33 0 #[] #[])
  fields := #[]
  methods := #[k0m0]
  instanceTypes := #[]
  staticTypes := #[]
  resolved := Array.replicate 124 none
  statics := none }

def pool1 : Array CpInfo := pool [(2, .class_ 4), (1, u "java/lang/Object"), (0, u "<init>"), (0, u "()V"), (0, .class_ 8), (0, u "com/example/ratesmith/ratesmith/model/RateKind"), (0, .fieldref 7 10), (0, .nameAndType 11 12), (0, u "STANDARD"), (0, u "Lcom/example/ratesmith/ratesmith/model/RateKind;"), (0, .fieldref 7 14), (0, .nameAndType 15 12), (0, u "CONTRACT"), (0, .fieldref 7 17), (0, .nameAndType 18 12), (0, u "BILLING"), (0, .fieldref 7 20), (0, .nameAndType 21 12), (0, u "COST"), (0, .methodref 7 23), (0, .nameAndType 24 25), (0, u "atTitleBilled"), (0, u "()Z"), (0, .class_ 27), (0, u "com/example/ratesmith/ratesmith/model/RateKindAtTitleBilledPinLaw"), (2, u "law"), (0, u "(I)Z")] 5

def k1m0 : Method := { name := "<init>", desc := "()V", sig := { parameters := [], returnType := none }, accessFlags := 1, code := none }
def k1c1 : Code := { maxStack := 4, maxLocals := 5, code := code, exceptionTable := #[], attributes := #[] }
def k1m1 : Method := { name := "law", desc := "(I)Z", sig := { parameters := [.int], returnType := some .boolean }, accessFlags := 9, code := some k1c1 }
/-- com/example/ratesmith/ratesmith/model/RateKindAtTitleBilledPinLaw -/
def k1 : Class := { plain "com/example/ratesmith/ratesmith/model/RateKindAtTitleBilledPinLaw" (some 0) with
  accessFlags := 49
  interfaces := #[]
  cf := some (fileOf pool1 26 #[] #[{ accessFlags := 1, nameIndex := 5, descriptorIndex := 6, attributes := #[] }, { accessFlags := 9, nameIndex := 30, descriptorIndex := 31, attributes := #[] }] 49 2 #[] #[])
  fields := #[]
  methods := #[k1m0, k1m1]
  instanceTypes := #[]
  staticTypes := #[]
  resolved := Array.replicate 37 none
  statics := none }

def pool2 : Array CpInfo := pool [(1, .class_ 2), (0, u "java/lang/constant/Constable"), (0, .class_ 4), (0, u "java/lang/Object")] 6

/-- java/lang/constant/Constable -/
def k2 : Class := { plain "java/lang/constant/Constable" (some 0) with
  accessFlags := 1537
  interfaces := #[]
  cf := some (fileOf pool2 1 #[] #[] 1537 3 #[] #[])
  fields := #[]
  methods := #[]
  instanceTypes := #[]
  staticTypes := #[]
  resolved := Array.replicate 11 none
  statics := none }

def pool3 : Array CpInfo := pool [(1, .class_ 2), (0, u "java/lang/Comparable"), (0, .class_ 4), (0, u "java/lang/Object")] 7

/-- java/lang/Comparable -/
def k3 : Class := { plain "java/lang/Comparable" (some 0) with
  accessFlags := 1537
  interfaces := #[]
  cf := some (fileOf pool3 1 #[] #[] 1537 3 #[] #[])
  fields := #[]
  methods := #[]
  instanceTypes := #[]
  staticTypes := #[]
  resolved := Array.replicate 12 none
  statics := none }

def pool4 : Array CpInfo := pool [(1, .class_ 2), (0, u "java/io/Serializable"), (0, .class_ 4), (0, u "java/lang/Object")] 2

/-- java/io/Serializable -/
def k4 : Class := { plain "java/io/Serializable" (some 0) with
  accessFlags := 1537
  interfaces := #[]
  cf := some (fileOf pool4 1 #[] #[] 1537 3 #[] #[])
  fields := #[]
  methods := #[]
  instanceTypes := #[]
  staticTypes := #[]
  resolved := Array.replicate 7 none
  statics := none }

def pool5 : Array CpInfo := pool [(2, .class_ 4), (1, u "java/lang/Enum"), (0, u "name"), (0, u "Ljava/lang/String;"), (2, u "ordinal"), (0, u "I"), (1, .class_ 14), (1, u "java/lang/Object"), (4, u "hash"), (86, .class_ 108), (1, u "java/lang/Enum$EnumDesc"), (2, .class_ 112), (0, u "java/lang/constant/Constable"), (0, .class_ 114), (0, u "java/lang/Comparable"), (0, .class_ 116), (0, u "java/io/Serializable")] 87

/-- java/lang/Enum -/
def k5 : Class := { plain "java/lang/Enum" (some 0) with
  accessFlags := 1057
  interfaces := #[2, 3, 4]
  cf := some (fileOf pool5 2 #[.nestMembers #[106]] #[] 1057 12 #[111, 113, 115] #[{ accessFlags := 18, nameIndex := 5, descriptorIndex := 6, attributes := #[] }, { accessFlags := 18, nameIndex := 9, descriptorIndex := 10, attributes := #[] }, { accessFlags := 2, nameIndex := 19, descriptorIndex := 10, attributes := #[] }])
  fields := #[{ name := "name", type := (.object "java/lang/String"), accessFlags := 18, slot := 0, constantValue := 0 }, { name := "ordinal", type := .int, accessFlags := 18, slot := 1, constantValue := 0 }, { name := "hash", type := .int, accessFlags := 2, slot := 2, constantValue := 0 }]
  methods := #[]
  instanceTypes := #[(.object "java/lang/String"), .int, .int]
  staticTypes := #[]
  resolved := Array.replicate 204 none
  statics := none }

def pool6 : Array CpInfo := pool [(1, .class_ 2), (0, u "com/example/ratesmith/ratesmith/model/RateKind"), (2, u "STANDARD"), (0, u "Lcom/example/ratesmith/ratesmith/model/RateKind;"), (0, .fieldref 1 8), (0, .nameAndType 9 6), (0, u "CONTRACT"), (0, .fieldref 1 11), (0, .nameAndType 12 6), (0, u "BILLING"), (2, u "COST"), (2, u "$VALUES"), (0, u "[Lcom/example/ratesmith/ratesmith/model/RateKind;"), (6, .class_ 28), (1, u "java/lang/Enum"), (24, u "key"), (0, u "Ljava/lang/String;"), (34, u "STANDARD_RULE"), (0, u "Lcom/example/ratesmith/ratesmith/model/RateKind$RuleForm;"), (2, u "WORK_RULE"), (2, u "COST_RULE"), (5, .class_ 104), (1, u "com/example/ratesmith/ratesmith/model/RateKind$RuleForm"), (20, u "()Z"), (13, u "ANY_RULE"), (0, .class_ 141), (0, u "com/example/ratesmith/ratesmith/model/RateKind$Written"), (48, u "EVERY_RULE_KEYS"), (0, u "Ljava/util/List;"), (20, u "WORK_DEPENDENCIES"), (26, u "DATED_RULE"), (7, u "READ_RULE"), (4, u "FEE_RULE"), (12, u "DATED_COST_RULE"), (2, u "CARD_COST_RULE"), (16, u "atTitleBilled")] 36

def k6c0 : Code := { maxStack := 2, maxLocals := 1, code := prog_29_method_9_code, exceptionTable := #[], attributes := #[] }
def k6m0 : Method := { name := "atTitleBilled", desc := "()Z", sig := { parameters := [], returnType := some .boolean }, accessFlags := 1, code := some k6c0 }
/-- com/example/ratesmith/ratesmith/model/RateKind -/
def k6 : Class := { plain "com/example/ratesmith/ratesmith/model/RateKind" (some 5) with
  accessFlags := 16433
  interfaces := #[]
  cf := some (fileOf pool6 1 #[.nestMembers #[102, 140]] #[{ accessFlags := 1, nameIndex := 285, descriptorIndex := 125, attributes := #[] }] 16433 26 #[] #[{ accessFlags := 16409, nameIndex := 5, descriptorIndex := 6, attributes := #[] }, { accessFlags := 16409, nameIndex := 9, descriptorIndex := 6, attributes := #[] }, { accessFlags := 16409, nameIndex := 12, descriptorIndex := 6, attributes := #[] }, { accessFlags := 16409, nameIndex := 15, descriptorIndex := 6, attributes := #[] }, { accessFlags := 26, nameIndex := 190, descriptorIndex := 191, attributes := #[] }, { accessFlags := 26, nameIndex := 212, descriptorIndex := 191, attributes := #[] }, { accessFlags := 26, nameIndex := 89, descriptorIndex := 90, attributes := #[] }, { accessFlags := 26, nameIndex := 239, descriptorIndex := 90, attributes := #[] }, { accessFlags := 26, nameIndex := 247, descriptorIndex := 90, attributes := #[] }, { accessFlags := 26, nameIndex := 252, descriptorIndex := 90, attributes := #[] }, { accessFlags := 26, nameIndex := 93, descriptorIndex := 90, attributes := #[] }, { accessFlags := 26, nameIndex := 265, descriptorIndex := 90, attributes := #[] }, { accessFlags := 26, nameIndex := 268, descriptorIndex := 90, attributes := #[] }, { accessFlags := 26, nameIndex := 96, descriptorIndex := 90, attributes := #[] }, { accessFlags := 26, nameIndex := 139, descriptorIndex := 90, attributes := #[] }, { accessFlags := 18, nameIndex := 53, descriptorIndex := 54, attributes := #[] }, { accessFlags := 4122, nameIndex := 18, descriptorIndex := 19, attributes := #[] }])
  fields := #[{ name := "STANDARD", type := (.object "com/example/ratesmith/ratesmith/model/RateKind"), accessFlags := 16409, slot := 0, constantValue := 0 }, { name := "CONTRACT", type := (.object "com/example/ratesmith/ratesmith/model/RateKind"), accessFlags := 16409, slot := 1, constantValue := 0 }, { name := "BILLING", type := (.object "com/example/ratesmith/ratesmith/model/RateKind"), accessFlags := 16409, slot := 2, constantValue := 0 }, { name := "COST", type := (.object "com/example/ratesmith/ratesmith/model/RateKind"), accessFlags := 16409, slot := 3, constantValue := 0 }, { name := "EVERY_RULE_KEYS", type := (.object "java/util/List"), accessFlags := 26, slot := 4, constantValue := 0 }, { name := "WORK_DEPENDENCIES", type := (.object "java/util/List"), accessFlags := 26, slot := 5, constantValue := 0 }, { name := "STANDARD_RULE", type := (.object "com/example/ratesmith/ratesmith/model/RateKind$RuleForm"), accessFlags := 26, slot := 6, constantValue := 0 }, { name := "DATED_RULE", type := (.object "com/example/ratesmith/ratesmith/model/RateKind$RuleForm"), accessFlags := 26, slot := 7, constantValue := 0 }, { name := "READ_RULE", type := (.object "com/example/ratesmith/ratesmith/model/RateKind$RuleForm"), accessFlags := 26, slot := 8, constantValue := 0 }, { name := "FEE_RULE", type := (.object "com/example/ratesmith/ratesmith/model/RateKind$RuleForm"), accessFlags := 26, slot := 9, constantValue := 0 }, { name := "WORK_RULE", type := (.object "com/example/ratesmith/ratesmith/model/RateKind$RuleForm"), accessFlags := 26, slot := 10, constantValue := 0 }, { name := "DATED_COST_RULE", type := (.object "com/example/ratesmith/ratesmith/model/RateKind$RuleForm"), accessFlags := 26, slot := 11, constantValue := 0 }, { name := "CARD_COST_RULE", type := (.object "com/example/ratesmith/ratesmith/model/RateKind$RuleForm"), accessFlags := 26, slot := 12, constantValue := 0 }, { name := "COST_RULE", type := (.object "com/example/ratesmith/ratesmith/model/RateKind$RuleForm"), accessFlags := 26, slot := 13, constantValue := 0 }, { name := "ANY_RULE", type := (.object "com/example/ratesmith/ratesmith/model/RateKind$RuleForm"), accessFlags := 26, slot := 14, constantValue := 0 }, { name := "key", type := (.object "java/lang/String"), accessFlags := 18, slot := 3, constantValue := 0 }, { name := "$VALUES", type := (.array (.object "com/example/ratesmith/ratesmith/model/RateKind")), accessFlags := 4122, slot := 15, constantValue := 0 }]
  methods := #[k6m0]
  instanceTypes := #[(.object "java/lang/String"), .int, .int, (.object "java/lang/String")]
  staticTypes := #[(.object "com/example/ratesmith/ratesmith/model/RateKind"), (.object "com/example/ratesmith/ratesmith/model/RateKind"), (.object "com/example/ratesmith/ratesmith/model/RateKind"), (.object "com/example/ratesmith/ratesmith/model/RateKind"), (.object "java/util/List"), (.object "java/util/List"), (.object "com/example/ratesmith/ratesmith/model/RateKind$RuleForm"), (.object "com/example/ratesmith/ratesmith/model/RateKind$RuleForm"), (.object "com/example/ratesmith/ratesmith/model/RateKind$RuleForm"), (.object "com/example/ratesmith/ratesmith/model/RateKind$RuleForm"), (.object "com/example/ratesmith/ratesmith/model/RateKind$RuleForm"), (.object "com/example/ratesmith/ratesmith/model/RateKind$RuleForm"), (.object "com/example/ratesmith/ratesmith/model/RateKind$RuleForm"), (.object "com/example/ratesmith/ratesmith/model/RateKind$RuleForm"), (.object "com/example/ratesmith/ratesmith/model/RateKind$RuleForm"), (.array (.object "com/example/ratesmith/ratesmith/model/RateKind"))]
  resolved := Array.replicate 322 none
  statics := some 0 }

def pool7 : Array CpInfo := pool [(1, u "java/lang/Cloneable"), (0, .class_ 1), (0, u "java/lang/Object"), (0, .class_ 3)] 3

/-- java/lang/Cloneable -/
def k7 : Class := { plain "java/lang/Cloneable" (some 0) with
  accessFlags := 1537
  interfaces := #[]
  cf := some (fileOf pool7 2 #[] #[] 1537 4 #[] #[])
  fields := #[]
  methods := #[]
  instanceTypes := #[]
  staticTypes := #[]
  resolved := Array.replicate 8 none
  statics := none }

/-- the primitive byte -/
def k8 : Class := { plain "byte" none with kind := .primitive 'B', accessFlags := 0x411 }
/-- [B -/
def k9 : Class := { plain "[B" (some 0) with kind := .array 8 .byte, interfaces := #[7, 4], accessFlags := 1041 }

/-- the primitive int -/
def k10 : Class := { plain "int" none with kind := .primitive 'I', accessFlags := 0x411 }
/-- [I -/
def k11 : Class := { plain "[I" (some 0) with kind := .array 10 .int, interfaces := #[7, 4], accessFlags := 1041 }

/-- [Lcom/example/ratesmith/ratesmith/model/RateKind; -/
def k12 : Class := { plain "[Lcom/example/ratesmith/ratesmith/model/RateKind;" (some 0) with kind := .array 6 (.object "com/example/ratesmith/ratesmith/model/RateKind"), interfaces := #[7, 4], accessFlags := 1041 }

def heap : Heap := #[{ cls := 6, slots := #[.ref 1, .ref 2, .ref 3, .ref 4, .null, .null, .null, .null, .null, .null, .null, .null, .null, .null, .null, .null], vm := .statics 6 },
  { cls := 6, slots := #[.null, .int 0, .int 0, .null], vm := .none },
  { cls := 6, slots := #[.null, .int 1, .int 0, .null], vm := .none },
  { cls := 6, slots := #[.null, .int 2, .int 0, .null], vm := .none },
  { cls := 6, slots := #[.null, .int 3, .int 0, .null], vm := .none }]
def classes : Array Class := #[k0, k1, k2, k3, k4, k5, k6, k7, k8, k9, k10, k11, k12]
def interned : List (Array UInt16 × Addr) := []
def slotsUsed : Nat := 32
def theMethod : MethodId := ⟨1, 1⟩
def args0 : Array Value := #[.int 5]
def aboutOver (below : List Frame) : State where
  vm := { classes := classes, interned := interned.toArray }
  heap := heap
  slotsUsed := slotsUsed
  threads := #[{ frames := .invoking theMethod args0 :: below }]
def below0 : List Frame := [.native { method := ⟨0, 0⟩, args := #[] }]
def about1 : State := aboutOver below0
def p0 : Program := .bare "" "" ""
def e0 : Env := launch0.env 0 0 0
theorem w_frames : about1.frames = Frame.invoking theMethod args0 :: below0 := rfl
set_option maxRecDepth 65536 in
theorem w_args : argsFit about1.vm theMethod args0 = true := by decide +kernel
set_option maxRecDepth 65536 in
theorem w_heap : heapFits about1 = true := by decide +kernel
set_option maxRecDepth 65536 in
theorem w_runnable : about1.curStatus? = some .runnable := by decide +kernel
set_option maxRecDepth 65536 in
theorem w_alone : about1.alone = true := by decide +kernel
set_option maxRecDepth 65536 in
theorem w_named : about1.methodNamed? x = some theMethod := by decide +kernel
set_option maxRecDepth 65536 in
theorem w_hears : about1.hears theMethod below0 = true := by decide +kernel
set_option maxRecDepth 65536 in
theorem w_ripe : about1.ripe theMethod args0 below0 = true := by decide +kernel
theorem w_running : about1.status = .running := rfl
set_option maxRecDepth 65536 in
theorem w_room : about1.hasRoom e0.platform room_1 = true :=
  launch0.hasRoom_least _ room_1 (by decide +kernel) (by decide +kernel) (by decide +kernel) (by decide +kernel) (by decide +kernel) (by decide +kernel)
theorem allAtoms_all (ts : List Jvm.Cond) (a : Array Jvm.Value) (st : Jvm.State) : (allAtoms ts).before a st = ts.all (fun c => c.before a st) := by
  induction ts with
  | nil => rfl
  | cons c t ih =>
    show (Jvm.Cond.and c (allAtoms t)).before a st = _
    rw [Jvm.Cond.before_and, ih, List.all_cons]
def words1 : List Jvm.Cond := Jvm.Cond.code x code maxLocals ret :: tables_1
/-- a 'code' word, met by the world's own term for the bytes: nothing is compared byte by byte -/
theorem code_word {y : MethodName} {bytes : ByteArray} {mx : Nat} {rt : Option FieldType} {a : Array Value} {s : State} {m : MethodId} {meth : Method} {c : Code} (h1 : s.methodNamed? y = some m) (h2 : s.vm.method? m = some meth) (h3 : meth.code = some c) (h4 : c.code = bytes)
    (h5 : (c.maxLocals == mx && c.exceptionTable.isEmpty && decide (c.maxStack ≤ mostOperands) && decide (meth.sig.returnType = rt) && !meth.locks && decide (parseMethodDescriptor y.desc = some meth.sig)) = true) : (Jvm.Cond.code y bytes mx rt).before a s = true := by
  simp only [Bool.and_eq_true, beq_iff_eq, Bool.not_eq_true', decide_eq_true_eq] at h5
  obtain ⟨⟨⟨⟨⟨g1, g2⟩, g3⟩, g4⟩, g5⟩, g6⟩ := h5
  simp [Cond.before, Cond.holds, Cond.value, h1, h2, h3, h4, g1, g2, g3, g4, g5, g6]
def isCode : Jvm.Cond → Bool
  | .code _ _ _ _ => true
  | _ => false
theorem all_split {L : List Jvm.Cond} {P : Jvm.Cond → Bool} (h1 : L.all (fun c => isCode c || P c) = true) (h2 : ∀ c ∈ L.filter isCode, P c = true) : L.all P = true := by
  refine List.all_eq_true.mpr fun c hc => ?_
  have h := List.all_eq_true.mp h1 c hc
  rcases Bool.eq_false_or_eq_true (isCode c) with hi | hi
  · exact h2 c (List.mem_filter.mpr ⟨hc, hi⟩)
  · simpa [hi] using h
set_option maxRecDepth 65536 in
theorem w_c0 : (Jvm.Cond.code x code maxLocals ret).before args0 about1 = true := code_word (m := ⟨1, 1⟩) (meth := k1m1) (c := k1c1) (by decide +kernel) rfl rfl rfl (by decide +kernel)
set_option maxRecDepth 65536 in
theorem w_c1 : (Jvm.Cond.code ({ cls := "com/example/ratesmith/ratesmith/model/RateKind", name := "atTitleBilled", desc := "()Z" } : Jvm.MethodName) prog_29_method_9_code (1 : Nat) (Option.some Jvm.ClassFile.FieldType.boolean)).before args0 about1 = true := code_word (m := ⟨6, 0⟩) (meth := k6m0) (c := k6c0) (by decide +kernel) rfl rfl rfl (by decide +kernel)
def codes1 : List Jvm.Cond := [Jvm.Cond.code x code maxLocals ret, Jvm.Cond.code ({ cls := "com/example/ratesmith/ratesmith/model/RateKind", name := "atTitleBilled", desc := "()Z" } : Jvm.MethodName) prog_29_method_9_code (1 : Nat) (Option.some Jvm.ClassFile.FieldType.boolean)]
set_option maxRecDepth 65536 in
theorem codes_eq : words1.filter isCode = codes1 := rfl
theorem w_codes : ∀ c ∈ words1.filter isCode, c.before args0 about1 = true := by
  rw [codes_eq]
  intro c hc
  simp only [codes1, List.mem_cons, List.not_mem_nil, or_false] at hc
  rcases hc with rfl | rfl
  · exact w_c0
  · exact w_c1
set_option maxRecDepth 65536 in
theorem w_t1 : words1.all (fun c => isCode c || c.before args0 about1) = true := by decide +kernel
theorem w_tables : (allAtoms (Jvm.Cond.code x code maxLocals ret :: tables_1)).before args0 about1 = true := by
  rw [allAtoms_all]
  show words1.all (fun c => c.before args0 about1) = true
  refine all_split ?_ w_codes
  rw [w_t1]
set_option maxRecDepth 65536 in
theorem w_case : (Jvm.Cond.and given_1 narrow_1).before args0 about1 = true := by decide +kernel
theorem w_applies : (headSpec (Jvm.Cond.code x code maxLocals ret :: tables_1) room_1).applies x e0.platform about1 = true :=
  (Spec.applies_iff w_frames).mpr ⟨w_running, w_runnable, w_alone, w_named, w_hears, w_ripe, w_room, w_tables⟩
theorem atStart : AtStart classFile x code maxLocals ret World_1 tables_1 room_1 Calls_1 rest_1 Pre_1 launch0 p0 e0 about1 theMethod args0 below0 :=
  ⟨lists_1, trivial, launch0.admits_env _ _ _, launch0.least_env, fairChoices_fair.cas, fairChoices_fair.clock, w_frames, w_args, w_heap, w_applies, trivial, trivial, w_case⟩
end start1
theorem witness_1 : WitnessClaimed_1 := ⟨start1.p0, start1.e0, start1.about1, start1.theMethod, start1.args0, start1.below0, start1.atStart⟩
end Jvm.Pilot.@@N@@
