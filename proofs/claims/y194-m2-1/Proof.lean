import JvmDerived
import JvmDerived.Pilot.@@N@@Statement
import JvmDerived.Pilot.@@N@@Code
set_option linter.unusedVariables false
set_option linter.unusedSimpArgs false
@@BLOCK:NumsL.lean.txt@@
namespace Jvm.RoadKit
open Sem ClassFile Op Lib Jvm.Stand Jvm.Free Jvm.LawKit
section New
variable {p : Program} {l : Launch} {e : Env} {R : Room} {s : State} {m : MethodId} {args : Array Value} {below : List Frame} {meth : Method} {c : Code} {T : State} {locs : List Loc} {cells slots : Nat}
theorem retI (X : Stand p l e R s m args below meth c T locs cells slots) (hx : p.tables.exec = Jvm.exec) {pc : Nat} {Ls : Array Slot} {z : Int32} {rest : List Value} (hret : meth.sig.returnType = some .int) (hd : decode c.code pc = .ok (.ireturn, 1)) {fs : List Frame}
    (hl : ∀ (f : JFrame) (acts : List Action), f.method = m → f.locked = none → f.entered = [] → (doReturn e (T.setTop f) acts (some (.int z))).1 = T.setFrames fs) : Steps p.tables e below (T.setTop (mkF m pc Ls (.int z :: rest))) (T.setFrames fs) := by
  have hm' : T.vm.method? m = some meth := X.method'
  have hn : narrow .int (.int z) = .int z := rfl
  show Steps p.tables e below (T.setTop { method := m, pc := pc, locals := Ls, stack := _ :: rest, locked := none }) _
  jvm_step X.here [X.here.top, hx, hd, hm', hret, hn]
  first | (intro acts; rw [hl _ acts rfl rfl rfl]) | rw [hl _ _ rfl rfl rfl]
  exact Steps.refl _
/-- the run from U comes to an end of which Q speaks -/
def Gl (tb : Tables) (e : Env) (below : List Frame) (Q : State → Outcome → Prop) (U : State) : Prop := ∃ s₂ o, Steps tb e below U s₂ ∧ s₂.status = .running ∧ Ended s₂ below o ∧ Q s₂ o
theorem Gl.out {tb : Tables} {Q : State → Outcome → Prop} {U : State} (h : Gl tb e below Q U) : ∃ s₂ o, Steps tb e below U s₂ ∧ s₂.status = .running ∧ Ended s₂ below o ∧ Q s₂ o := h
theorem Gl.mk {tb : Tables} {Q : State → Outcome → Prop} {U : State} (h : ∃ s₂ o, Steps tb e below U s₂ ∧ s₂.status = .running ∧ Ended s₂ below o ∧ Q s₂ o) : Gl tb e below Q U := h
theorem Gl.go {tb : Tables} {Q : State → Outcome → Prop} {U V : State} (g : Gl tb e below Q V) (st : ∀ t, Steps tb e below V t → Steps tb e below U t) : Gl tb e below Q U := by
  obtain ⟨s₂, o, h1, h2⟩ := g
  exact ⟨s₂, o, st _ h1, h2⟩
theorem Gl.tr {tb : Tables} {Q : State → Outcome → Prop} {U V : State} (g : Gl tb e below Q V) (st : Steps tb e below U V) : Gl tb e below Q U := g.go fun _ k => st.trans k
/-- what a body leaves that writes and makes nothing: it returns w, the heap as it was -/
def PQ (w : Option Value) (h0 : Heap) (v : Option Value) (h : Heap) (L : List Loc) : Prop := v = w ∧ L = [] ∧ h = h0
end New
end Jvm.RoadKit
namespace Jvm.Pilot.@@N@@
open Jvm Jvm.ClassFile Sem Op Lib Jvm.Free Jvm.Stand Jvm.LawKit Jvm.RoadKit Bundle Jvm.Pilot.@@N@@.Jvm.D
theorem own_eqv {args : Array Value} {first s : State} {o : Option Outcome} {idx : List Nat} {a b : Term} {y : Value} (h : (Cond.eq a b).value args first o s idx = some true) (hb : b.eval args first o idx s = some y) (hy : y.isRef = true ∨ ∃ z, y = .int z) : a.eval args first o idx s = some y := by
  cases ha : a.eval args first o idx s with
  | none => simp [Cond.value, ha] at h
  | some x => rcases hy with hy | ⟨z, rfl⟩ <;> cases x <;> (try cases y) <;> simp_all [Cond.value, Value.isRef]
theorem own_ref {v : Value} (h : v.isRef = true) : v = .null ∨ ∃ a, v = .ref a := ref_cases h
theorem own_nr (a : Addr) : ¬ (Value.ref a) = .null := nofun
theorem d1_0 : decode prog_53_method_1_code 0 = .ok (.iload_n 0, 1) := by decide +kernel
theorem d1_1 : decode prog_53_method_1_code 1 = .ok (.ifCond .eq 9, 3) := by decide +kernel
theorem d1_4 : decode prog_53_method_1_code 4 = .ok (.getstatic 1, 3) := by decide +kernel
theorem d1_7 : decode prog_53_method_1_code 7 = .ok (.goto 6, 3) := by decide +kernel
theorem d1_10 : decode prog_53_method_1_code 10 = .ok (.getstatic 7, 3) := by decide +kernel
theorem d1_13 : decode prog_53_method_1_code 13 = .ok (.areturn, 1) := by decide +kernel
theorem pn_1 : plainName "com/example/clotwire/clotwire/link/Answer" = true := by first | (simp [plainName, overriddenIn]; done) | decide +kernel
def f_of (u : Int32) (aT aR : Addr) : Addr := (if u = (0 : Int32) then aR else aT)
theorem ef_rm1 (m : MethodId) (x0 : Int32) : entryFrame m #[(.int x0)] 1 = mkF m 0 #[.val (.int x0)] [] := by first | (simp [entryFrame, mkF, argsToLocals, Value.category]; done) | rfl
set_option maxRecDepth 65536 in
set_option maxHeartbeats 40000000 in
theorem rm1 (l : Launch) (Z : State) (a0 : Array Value) (hw : ∀ d ∈ tables_1, d.before a0 Z = true) (ws : List Jvm.Cond) (u : Int32) (aT aR : Addr) (h0 : Heap) (S_AT : Sta Z h0 "com/example/clotwire/clotwire/link/Answer" "TAKEN" "Lcom/example/clotwire/clotwire/link/Answer;" (.ref aT)) (S_AR : Sta Z h0 "com/example/clotwire/clotwire/link/Answer" "REFUSED" "Lcom/example/clotwire/clotwire/link/Answer;" (.ref aR)) :
    MetFree l (⟨"com/example/clotwire/clotwire/link/Answer", "of", "(Z)Lcom/example/clotwire/clotwire/link/Answer;"⟩ : MethodName) (head1 (Jvm.Cond.code (⟨"com/example/clotwire/clotwire/link/Answer", "of", "(Z)Lcom/example/clotwire/clotwire/link/Answer;"⟩ : MethodName) prog_53_method_1_code 1 (some (.object "com/example/clotwire/clotwire/link/Answer")) :: ws) ({ frames := 0, cells := 0, slots := 0, locals := 0 } : Room)) (fun aQ U => aQ = #[(.int u)] ∧ Z.Warmed39 U.vm ∧ U.heap = h0) (fun _ _ _ _ _ => True) (fun _ U o U' => ∃ vQ LQ, o = .returned vQ ∧ PQ (some (.ref (f_of u aT aR))) h0 vQ U'.heap LQ ∧ FrameEnd U o U' LQ ({ frames := 0, cells := 0, slots := 0, locals := 0 } : Room).cells ({ frames := 0, cells := 0, slots := 0, locals := 0 } : Room).slots) := by
  refine MetFree.of_bodySF (plainFor_of_name pn_1) hisR ?_
  intro p e s m args below meth c s₁ Bd hml0 hP hK
  obtain ⟨rfl, hZ, hh⟩ := hP
  have hx := Bd.exec
  have hby := Bd.bytes
  have hml : c.maxLocals = 1 := hml0
  have hown : s.vm.findClass "com/example/clotwire/clotwire/link/Answer" = some m.cls := findClass_of_methodNamed Bd.named
  have hnm := (name_of_methodNamed Bd.named Bd.method).1
  have X0 : Stand p l e ({ frames := 0, cells := 0, slots := 0, locals := 0 } : Room) s m #[(.int u)] below meth c s₁ [] 0 0 := Stand.of_body Bd
  have e0 : s₁.heap = h0 := by rw [← hh, Bd.state]; rfl
  refine Gl.out ?_
  refine Gl.go ?_ (fun t k => castTop (ef_rm1 m u) k)
  show Gl _ _ _ _ (s₁.setTop (mkF m 0 #[.val (.int u)] []))
  refine Gl.go ?_ (fun t k => XS.iloadN X0.here hx rfl (hb hby d1_0) rfl k)
  show Gl _ _ _ _ (s₁.setTop (mkF m 1 #[.val (.int u)] [(.int u)]))
  by_cases hc1 : u = (0 : Int32)
  · refine Gl.go ?_ (fun t k => XS.ifYes X0.here hx rfl (pc0 := 1) (pc' := 10) rfl (hb hby d1_1) rfl ((if0 _ _).trans (teq hc1).1) (by decide) (by decide) k)
    show Gl _ _ _ _ (s₁.setTop (mkF m 10 #[.val (.int u)] []))
    obtain ⟨T2, X2, e2, st2⟩ := getS2 X0 hx hZ hown (host := "") (Or.inl (hw _ (List.mem_of_getElem? (i := 7) rfl))) Via.refl e0 S_AR (g := (mkF m 10 #[.val (.int u)] [])) rfl (hb hby d1_10)
    refine Gl.go ?_ st2
    show Gl _ _ _ _ (T2.setTop (mkF m 13 #[.val (.int u)] [(.ref aR)]))
    obtain ⟨fs, hr, hrun, hended, hW, hsame⟩ := X2.leave (v := some (.ref aR)) (fun h => by rw [Bd.returns] at h; cases h)
    exact Gl.mk ⟨_, _, retOut X2 hx Bd.returns rfl (Or.inr (Or.inr (Or.inr (Or.inr ⟨rfl, rfl, rfl⟩)))) (hb hby d1_13) hr, hrun, hended, _, _, rfl, ⟨congrArg (fun z => some (Value.ref z)) ((if_pos hc1).trans (rfl)).symm, rfl, e2⟩, ⟨_, rfl⟩, hW, hsame.mono (by decide) (by decide)⟩
  · refine Gl.go ?_ (fun t k => XS.ifNo X0.here hx rfl (hb hby d1_1) rfl ((if0 _ _).trans (feq hc1).1) k)
    show Gl _ _ _ _ (s₁.setTop (mkF m 4 #[.val (.int u)] []))
    obtain ⟨T3, X3, e3, st3⟩ := getS2 X0 hx hZ hown (host := "") (Or.inl (hw _ (List.mem_of_getElem? (i := 32) rfl))) Via.refl e0 S_AT (g := (mkF m 4 #[.val (.int u)] [])) rfl (hb hby d1_4)
    refine Gl.go ?_ st3
    show Gl _ _ _ _ (T3.setTop (mkF m 7 #[.val (.int u)] [(.ref aT)]))
    refine Gl.go ?_ (fun t k => XS.goto X3.here hx rfl (pc0 := 7) (pc' := 13) rfl (hb hby d1_7) (by decide) (by decide) k)
    show Gl _ _ _ _ (T3.setTop (mkF m 13 #[.val (.int u)] [(.ref aT)]))
    obtain ⟨fs, hr, hrun, hended, hW, hsame⟩ := X3.leave (v := some (.ref aT)) (fun h => by rw [Bd.returns] at h; cases h)
    exact Gl.mk ⟨_, _, retOut X3 hx Bd.returns rfl (Or.inr (Or.inr (Or.inr (Or.inr ⟨rfl, rfl, rfl⟩)))) (hb hby d1_13) hr, hrun, hended, _, _, rfl, ⟨congrArg (fun z => some (Value.ref z)) ((if_neg hc1).trans (rfl)).symm, rfl, e3⟩, ⟨_, rfl⟩, hW, hsame.mono (by decide) (by decide)⟩
theorem d3_0 : decode prog_54_method_4_code 0 = .ok (.iconst 1, 1) := by decide +kernel
theorem d3_1 : decode prog_54_method_4_code 1 = .ok (.ireturn, 1) := by decide +kernel
theorem pn_3 : plainName "com/example/clotwire/clotwire/link/Answer$Known" = true := by first | (simp [plainName, overriddenIn]; done) | decide +kernel
def f_ready (a : Addr) : Int32 := (1 : Int32)
theorem ef_rm3 (m : MethodId) (x0 : Addr) : entryFrame m #[(.ref x0)] 1 = mkF m 0 #[.val (.ref x0)] [] := by first | (simp [entryFrame, mkF, argsToLocals, Value.category]; done) | rfl
set_option maxRecDepth 65536 in
set_option maxHeartbeats 40000000 in
theorem rm3 (l : Launch) (Z : State) (a0 : Array Value) (hw : ∀ d ∈ tables_1, d.before a0 Z = true) (ws : List Jvm.Cond) (a : Addr)  (h0 : Heap)  :
    MetFree l (⟨"com/example/clotwire/clotwire/link/Answer$Known", "ready", "()Z"⟩ : MethodName) (head1 (Jvm.Cond.code (⟨"com/example/clotwire/clotwire/link/Answer$Known", "ready", "()Z"⟩ : MethodName) prog_54_method_4_code 1 (some .boolean) :: ws) ({ frames := 0, cells := 0, slots := 0, locals := 0 } : Room)) (fun aQ U => aQ = #[(.ref a)] ∧ Z.Warmed39 U.vm ∧ U.heap = h0) (fun _ _ _ _ _ => True) (fun _ U o U' => ∃ vQ LQ, o = .returned vQ ∧ PQ (some (.int (f_ready a))) h0 vQ U'.heap LQ ∧ FrameEnd U o U' LQ ({ frames := 0, cells := 0, slots := 0, locals := 0 } : Room).cells ({ frames := 0, cells := 0, slots := 0, locals := 0 } : Room).slots) := by
  refine MetFree.of_bodySF (plainFor_of_name pn_3) hisR ?_
  intro p e s m args below meth c s₁ Bd hml0 hP hK
  obtain ⟨rfl, hZ, hh⟩ := hP
  have hx := Bd.exec
  have hby := Bd.bytes
  have hml : c.maxLocals = 1 := hml0
  have hown : s.vm.findClass "com/example/clotwire/clotwire/link/Answer$Known" = some m.cls := findClass_of_methodNamed Bd.named
  have hnm := (name_of_methodNamed Bd.named Bd.method).1
  have X0 : Stand p l e ({ frames := 0, cells := 0, slots := 0, locals := 0 } : Room) s m #[(.ref a)] below meth c s₁ [] 0 0 := Stand.of_body Bd
  have e0 : s₁.heap = h0 := by rw [← hh, Bd.state]; rfl
  refine Gl.out ?_
  refine Gl.go ?_ (fun t k => castTop (ef_rm3 m a) k)
  show Gl _ _ _ _ (s₁.setTop (mkF m 0 #[.val (.ref a)] []))
  refine Gl.go ?_ (fun t k => XS.iconst X0.here hx rfl (hb hby d3_0) k)
  show Gl _ _ _ _ (s₁.setTop (mkF m 1 #[.val (.ref a)] [(.int (1 : Int32))]))
  obtain ⟨fs, hr, hrun, hended, hW, hsame⟩ := X0.leave (v := some (.int (1 : Int32))) (fun h => by rw [Bd.returns] at h; cases h)
  exact Gl.mk ⟨_, _, retN X0 hx (t := .boolean) Bd.returns (by simp) (hb hby d3_1) hr, hrun, hended, _, _, rfl, ⟨congrArg (fun z => some (Value.int z)) (rfl).symm, rfl, e0⟩, ⟨_, rfl⟩, hW, hsame.mono (by decide) (by decide)⟩
theorem d2_0 : decode prog_54_method_5_code 0 = .ok (.aload_n 0, 1) := by decide +kernel
theorem d2_1 : decode prog_54_method_5_code 1 = .ok (.getstatic 3, 3) := by decide +kernel
theorem d2_4 : decode prog_54_method_5_code 4 = .ok (.if_acmp .ne 7, 3) := by decide +kernel
theorem d2_7 : decode prog_54_method_5_code 7 = .ok (.iconst 1, 1) := by decide +kernel
theorem d2_8 : decode prog_54_method_5_code 8 = .ok (.goto 4, 3) := by decide +kernel
theorem d2_11 : decode prog_54_method_5_code 11 = .ok (.iconst 0, 1) := by decide +kernel
theorem d2_12 : decode prog_54_method_5_code 12 = .ok (.ireturn, 1) := by decide +kernel
theorem pn_2 : plainName "com/example/clotwire/clotwire/link/Answer$Known" = true := by first | (simp [plainName, overriddenIn]; done) | decide +kernel
def f_taken (a aT : Addr) : Int32 := (if a = aT then (1 : Int32) else (0 : Int32))
theorem ef_rm2 (m : MethodId) (x0 : Addr) : entryFrame m #[(.ref x0)] 1 = mkF m 0 #[.val (.ref x0)] [] := by first | (simp [entryFrame, mkF, argsToLocals, Value.category]; done) | rfl
set_option maxRecDepth 65536 in
set_option maxHeartbeats 40000000 in
theorem rm2 (l : Launch) (Z : State) (a0 : Array Value) (hw : ∀ d ∈ tables_1, d.before a0 Z = true) (ws : List Jvm.Cond) (a : Addr) (aT : Addr) (h0 : Heap) (S_KT : Sta Z h0 "com/example/clotwire/clotwire/link/Answer$Known" "TAKEN" "Lcom/example/clotwire/clotwire/link/Answer$Known;" (.ref aT)) :
    MetFree l (⟨"com/example/clotwire/clotwire/link/Answer$Known", "taken", "()Z"⟩ : MethodName) (head1 (Jvm.Cond.code (⟨"com/example/clotwire/clotwire/link/Answer$Known", "taken", "()Z"⟩ : MethodName) prog_54_method_5_code 1 (some .boolean) :: ws) ({ frames := 0, cells := 0, slots := 0, locals := 0 } : Room)) (fun aQ U => aQ = #[(.ref a)] ∧ Z.Warmed39 U.vm ∧ U.heap = h0) (fun _ _ _ _ _ => True) (fun _ U o U' => ∃ vQ LQ, o = .returned vQ ∧ PQ (some (.int (f_taken a aT))) h0 vQ U'.heap LQ ∧ FrameEnd U o U' LQ ({ frames := 0, cells := 0, slots := 0, locals := 0 } : Room).cells ({ frames := 0, cells := 0, slots := 0, locals := 0 } : Room).slots) := by
  refine MetFree.of_bodySF (plainFor_of_name pn_2) hisR ?_
  intro p e s m args below meth c s₁ Bd hml0 hP hK
  obtain ⟨rfl, hZ, hh⟩ := hP
  have hx := Bd.exec
  have hby := Bd.bytes
  have hml : c.maxLocals = 1 := hml0
  have hown : s.vm.findClass "com/example/clotwire/clotwire/link/Answer$Known" = some m.cls := findClass_of_methodNamed Bd.named
  have hnm := (name_of_methodNamed Bd.named Bd.method).1
  have X0 : Stand p l e ({ frames := 0, cells := 0, slots := 0, locals := 0 } : Room) s m #[(.ref a)] below meth c s₁ [] 0 0 := Stand.of_body Bd
  have e0 : s₁.heap = h0 := by rw [← hh, Bd.state]; rfl
  refine Gl.out ?_
  refine Gl.go ?_ (fun t k => castTop (ef_rm2 m a) k)
  show Gl _ _ _ _ (s₁.setTop (mkF m 0 #[.val (.ref a)] []))
  refine Gl.go ?_ (fun t k => XS.aloadN X0.here hx rfl (hb hby d2_0) rfl rfl k)
  show Gl _ _ _ _ (s₁.setTop (mkF m 1 #[.val (.ref a)] [(.ref a)]))
  obtain ⟨T4, X4, e4, st4⟩ := getS2 X0 hx hZ hown (host := "") (Or.inl (hw _ (List.mem_of_getElem? (i := 14) rfl))) Via.refl e0 S_KT (g := (mkF m 1 #[.val (.ref a)] [(.ref a)])) rfl (hb hby d2_1)
  refine Gl.go ?_ st4
  show Gl _ _ _ _ (T4.setTop (mkF m 4 #[.val (.ref a)] [(.ref aT), (.ref a)]))
  by_cases ha5 : a = aT
  · refine Gl.go ?_ (fun t k => Jvm.RoadKit.acmp (g := (mkF m 4 #[.val (.ref a)] [(.ref aT), (.ref a)])) X4 hx rfl rfl rfl (pc0 := 4) (pc' := 7) (same := true) rfl (hb hby d2_4) rfl (decide_eq_true (congrArg Value.ref ha5)) (by decide) (by decide) k)
    show Gl _ _ _ _ (T4.setTop (mkF m 7 #[.val (.ref a)] []))
    refine Gl.go ?_ (fun t k => XS.iconst X4.here hx rfl (hb hby d2_7) k)
    show Gl _ _ _ _ (T4.setTop (mkF m 8 #[.val (.ref a)] [(.int (1 : Int32))]))
    refine Gl.go ?_ (fun t k => XS.goto X4.here hx rfl (pc0 := 8) (pc' := 12) rfl (hb hby d2_8) (by decide) (by decide) k)
    show Gl _ _ _ _ (T4.setTop (mkF m 12 #[.val (.ref a)] [(.int (1 : Int32))]))
    obtain ⟨fs, hr, hrun, hended, hW, hsame⟩ := X4.leave (v := some (.int (1 : Int32))) (fun h => by rw [Bd.returns] at h; cases h)
    exact Gl.mk ⟨_, _, retN X4 hx (t := .boolean) Bd.returns (by simp) (hb hby d2_12) hr, hrun, hended, _, _, rfl, ⟨congrArg (fun z => some (Value.int z)) ((if_pos ha5).trans (rfl)).symm, rfl, e4⟩, ⟨_, rfl⟩, hW, hsame.mono (by decide) (by decide)⟩
  · refine Gl.go ?_ (fun t k => Jvm.RoadKit.acmp (g := (mkF m 4 #[.val (.ref a)] [(.ref aT), (.ref a)])) X4 hx rfl rfl rfl (pc0 := 4) (pc' := 11) (same := false) rfl (hb hby d2_4) rfl (decide_eq_false fun q => ha5 (Value.ref.inj q)) (by decide) (by decide) k)
    show Gl _ _ _ _ (T4.setTop (mkF m 11 #[.val (.ref a)] []))
    refine Gl.go ?_ (fun t k => XS.iconst X4.here hx rfl (hb hby d2_11) k)
    show Gl _ _ _ _ (T4.setTop (mkF m 12 #[.val (.ref a)] [(.int (0 : Int32))]))
    obtain ⟨fs, hr, hrun, hended, hW, hsame⟩ := X4.leave (v := some (.int (0 : Int32))) (fun h => by rw [Bd.returns] at h; cases h)
    exact Gl.mk ⟨_, _, retN X4 hx (t := .boolean) Bd.returns (by simp) (hb hby d2_12) hr, hrun, hended, _, _, rfl, ⟨congrArg (fun z => some (Value.int z)) ((if_neg ha5).trans (rfl)).symm, rfl, e4⟩, ⟨_, rfl⟩, hW, hsame.mono (by decide) (by decide)⟩
theorem pn_0 : plainName "com/example/clotwire/clotwire/link/KnownTakenPinLaw" = true := by first | (simp [plainName, overriddenIn]; done) | decide +kernel
theorem pd_0 : parseMethodDescriptor "(Z)Lcom/example/clotwire/clotwire/link/Answer;" = some ⟨[.boolean], some (.object "com/example/clotwire/clotwire/link/Answer")⟩ := by decide +kernel
theorem pd_1 : parseMethodDescriptor "()Z" = some ⟨[], some .boolean⟩ := by decide +kernel
def f_law (p0 : Int32) (aT aR : Addr) : Int32 := (if (p0 &&& (1 : Int32)) = (0 : Int32) then (1 : Int32) else (1 : Int32))
theorem ef_rm0 (m : MethodId) (x0 : Int32) : entryFrame m #[(.int x0)] maxLocals = mkF m 0 #[.val (.int x0), .unset, .unset, .unset, .unset, .unset] [] := by first | (simp [entryFrame, mkF, argsToLocals, Value.category, maxLocals]; done) | rfl
set_option maxRecDepth 65536 in
set_option maxHeartbeats 40000000 in
theorem rm0 (l : Launch) (Z : State) (a0 : Array Value) (hw : ∀ d ∈ tables_1, d.before a0 Z = true) (ws : List Jvm.Cond) (p0 : Int32) (aT aR : Addr) (h0 : Heap) (S_AT : Sta Z h0 "com/example/clotwire/clotwire/link/Answer" "TAKEN" "Lcom/example/clotwire/clotwire/link/Answer;" (.ref aT)) (S_AR : Sta Z h0 "com/example/clotwire/clotwire/link/Answer" "REFUSED" "Lcom/example/clotwire/clotwire/link/Answer;" (.ref aR)) (S_KT : Sta Z h0 "com/example/clotwire/clotwire/link/Answer$Known" "TAKEN" "Lcom/example/clotwire/clotwire/link/Answer$Known;" (.ref aT)) (S_KR : Sta Z h0 "com/example/clotwire/clotwire/link/Answer$Known" "REFUSED" "Lcom/example/clotwire/clotwire/link/Answer$Known;" (.ref aR)) (E_T : Exa Z h0 aT "com/example/clotwire/clotwire/link/Answer$Known") (E_R : Exa Z h0 aR "com/example/clotwire/clotwire/link/Answer$Known") (hne : aT ≠ aR) :
    MetFree l x (head1 (Jvm.Cond.code x code maxLocals ret :: ws) room_1) (fun aQ U => aQ = #[(.int p0)] ∧ Z.Warmed39 U.vm ∧ U.heap = h0) (fun _ _ _ _ _ => True) (fun _ U o U' => ∃ vQ LQ, o = .returned vQ ∧ PQ (some (.int (f_law p0 aT aR))) h0 vQ U'.heap LQ ∧ FrameEnd U o U' LQ room_1.cells room_1.slots) := by
  refine MetFree.of_bodySF (plainFor_of_name pn_0) hisR ?_
  intro p e s m args below meth c s₁ Bd hml0 hP hK
  obtain ⟨rfl, hZ, hh⟩ := hP
  have hx := Bd.exec
  have hby := Bd.bytes
  have hml : c.maxLocals = 6 := hml0
  have hown : s.vm.findClass "com/example/clotwire/clotwire/link/KnownTakenPinLaw" = some m.cls := findClass_of_methodNamed Bd.named
  have hnm := (name_of_methodNamed Bd.named Bd.method).1
  have X0 : Stand p l e room_1 s m #[(.int p0)] below meth c s₁ [] 0 0 := Stand.of_body Bd
  have e0 : s₁.heap = h0 := by rw [← hh, Bd.state]; rfl
  refine Gl.out ?_
  refine Gl.go ?_ (fun t k => castTop (ef_rm0 m p0) k)
  show Gl _ _ _ _ (s₁.setTop (mkF m 0 #[.val (.int p0), .unset, .unset, .unset, .unset, .unset] []))
  refine Gl.go ?_ (fun t k => XS.iloadN X0.here hx rfl (hb hby at_0) rfl k)
  show Gl _ _ _ _ (s₁.setTop (mkF m 1 #[.val (.int p0), .unset, .unset, .unset, .unset, .unset] [(.int p0)]))
  refine Gl.go ?_ (fun t k => XS.iconst X0.here hx rfl (hb hby at_1) k)
  show Gl _ _ _ _ (s₁.setTop (mkF m 2 #[.val (.int p0), .unset, .unset, .unset, .unset, .unset] [(.int (1 : Int32)), (.int p0)]))
  refine Gl.go ?_ (fun t k => XS.iand X0.here hx rfl (hb hby at_2) rfl k)
  show Gl _ _ _ _ (s₁.setTop (mkF m 3 #[.val (.int p0), .unset, .unset, .unset, .unset, .unset] [(.int (p0 &&& (1 : Int32)))]))
  by_cases hc6 : (p0 &&& (1 : Int32)) = (0 : Int32)
  · refine Gl.go ?_ (fun t k => XS.ifYes X0.here hx rfl (pc0 := 3) (pc' := 10) rfl (hb hby at_3) rfl ((if0 _ _).trans (teq hc6).1) (by decide) (by decide) k)
    show Gl _ _ _ _ (s₁.setTop (mkF m 10 #[.val (.int p0), .unset, .unset, .unset, .unset, .unset] []))
    refine Gl.go ?_ (fun t k => XS.iconst X0.here hx rfl (hb hby at_10) k)
    show Gl _ _ _ _ (s₁.setTop (mkF m 11 #[.val (.int p0), .unset, .unset, .unset, .unset, .unset] [(.int (0 : Int32))]))
    refine Gl.go ?_ (fun t k => XS.istoreN X0.here hx rfl (hb hby at_11) rfl (l' := #[.val (.int p0), .val (.int (0 : Int32)), .unset, .unset, .unset, .unset]) rfl k)
    show Gl _ _ _ _ (s₁.setTop (mkF m 12 #[.val (.int p0), .val (.int (0 : Int32)), .unset, .unset, .unset, .unset] []))
    refine Gl.go ?_ (fun t k => XS.iloadN X0.here hx rfl (hb hby at_12) rfl k)
    show Gl _ _ _ _ (s₁.setTop (mkF m 13 #[.val (.int p0), .val (.int (0 : Int32)), .unset, .unset, .unset, .unset] [(.int (0 : Int32))]))
    refine Gl.go ?_ (fun t k => XS.ifYes X0.here hx rfl (pc0 := 13) (pc' := 22) rfl (hb hby at_13) rfl ((if0 _ _).trans (teq (by decide : (0 : Int32) = (0 : Int32))).1) (by decide) (by decide) k)
    show Gl _ _ _ _ (s₁.setTop (mkF m 22 #[.val (.int p0), .val (.int (0 : Int32)), .unset, .unset, .unset, .unset] []))
    obtain ⟨T7, X7, e7, st7⟩ := getS2 X0 hx hZ hown (host := "") (Or.inl (hw _ (List.mem_of_getElem? (i := 0) rfl))) Via.refl e0 S_KR (g := (mkF m 22 #[.val (.int p0), .val (.int (0 : Int32)), .unset, .unset, .unset, .unset] [])) rfl (hb hby at_22)
    refine Gl.go ?_ st7
    show Gl _ _ _ _ (T7.setTop (mkF m 25 #[.val (.int p0), .val (.int (0 : Int32)), .unset, .unset, .unset, .unset] [(.ref aR)]))
    refine Gl.go ?_ (fun t k => XS.astoreN X7.here hx rfl (hb hby at_25) rfl rfl (l' := #[.val (.int p0), .val (.int (0 : Int32)), .val (.ref aR), .unset, .unset, .unset]) rfl k)
    show Gl _ _ _ _ (T7.setTop (mkF m 26 #[.val (.int p0), .val (.int (0 : Int32)), .val (.ref aR), .unset, .unset, .unset] []))
    refine Gl.go ?_ (fun t k => XS.iloadN X7.here hx rfl (hb hby at_26) rfl k)
    show Gl _ _ _ _ (T7.setTop (mkF m 27 #[.val (.int p0), .val (.int (0 : Int32)), .val (.ref aR), .unset, .unset, .unset] [(.int (0 : Int32))]))
    obtain ⟨_, _, ⟨T8, L8, k8, n8⟩, -, X8, ⟨Lc8, hQ8, l8, y8, z8⟩, st8⟩ := Jvm.LawKit.callS X7 hx (y := (⟨"com/example/clotwire/clotwire/link/Answer", "of", "(Z)Lcom/example/clotwire/clotwire/link/Answer;"⟩ : MethodName)) hown (mvT hZ (hw _ (List.mem_of_getElem? (i := 3) rfl))) (mvT hZ (hw _ (List.mem_of_getElem? (i := 4) rfl))) (mvT hZ (hw _ (List.mem_of_getElem? (i := 5) rfl))) (mvT hZ (hw _ (List.mem_of_getElem? (i := 6) rfl))) (by decide) (backOf (W := 0) (rm1 l Z a0 hw [] (0 : Int32) aT aR h0 S_AT S_AR) hZ (hw _ (List.mem_of_getElem? (i := 6) rfl)) (hw _ (List.mem_of_getElem? (i := 5) rfl)) (by decide) (by decide)) (g := (mkF m 27 #[.val (.int p0), .val (.int (0 : Int32)), .val (.ref aR), .unset, .unset, .unset] [(.int (0 : Int32))])) rfl (by rw [hml]; rfl) (argsL := [(.int (0 : Int32))]) (rest := []) (lenOf pd_0 rfl) rfl (by show 2 * 0 + _ ≤ _; exact Nat.le_of_eq rfl) (hb hby at_27) (fun _ _ => ⟨rfl, e7, (by decide : 0 + 0 ≤ _), (by decide : 0 + 0 ≤ _)⟩)
    dsimp only [Pt.U, Pt.locs, Pt.cells, Pt.slots] at X8 l8 y8 z8 st8 hQ8
    subst l8 y8 z8
    obtain ⟨rfl, rfl, e8⟩ := hQ8
    refine Gl.go ?_ st8
    show Gl _ _ _ _ (T8.setTop (mkF m 30 #[.val (.int p0), .val (.int (0 : Int32)), .val (.ref aR), .unset, .unset, .unset] [(.ref aR)]))
    refine Gl.go ?_ (fun t k => XS.astoreN X8.here hx rfl (hb hby at_30) rfl rfl (l' := #[.val (.int p0), .val (.int (0 : Int32)), .val (.ref aR), .val (.ref aR), .unset, .unset]) rfl k)
    show Gl _ _ _ _ (T8.setTop (mkF m 31 #[.val (.int p0), .val (.int (0 : Int32)), .val (.ref aR), .val (.ref aR), .unset, .unset] []))
    refine Gl.go ?_ (fun t k => XS.aloadN X8.here hx rfl (hb hby at_31) rfl rfl k)
    show Gl _ _ _ _ (T8.setTop (mkF m 32 #[.val (.int p0), .val (.int (0 : Int32)), .val (.ref aR), .val (.ref aR), .unset, .unset] [(.ref aR)]))
    obtain ⟨cq9, kq9, q9a, q9b, q9c⟩ := isOf hZ e8 E_R
    obtain ⟨_, _, ⟨T9, L9, k9, n9⟩, -, X9, ⟨Lc9, hQ9, l9, y9, z9⟩, st9⟩ := X8.virtualBack hx (y := (⟨"com/example/clotwire/clotwire/link/Answer$Known", "taken", "()Z"⟩ : MethodName)) (z := (⟨"com/example/clotwire/clotwire/link/Answer$Known", "taken", "()Z"⟩ : MethodName)) hown (mvT hZ (hw _ (List.mem_of_getElem? (i := 9) rfl))) (mvT hZ (hw _ (List.mem_of_getElem? (i := 10) rfl))) (notFace_of_selects (args := #[]) (mvT hZ (hw _ (List.mem_of_getElem? (i := 12) rfl)))) (mvT hZ (hw _ (List.mem_of_getElem? (i := 12) rfl))) (mvT hZ (hw _ (List.mem_of_getElem? (i := 11) rfl))) (by decide) (backOf (W := 0) (rm2 l Z a0 hw [] aR aT h0 S_KT) hZ (hw _ (List.mem_of_getElem? (i := 13) rfl)) (hw _ (List.mem_of_getElem? (i := 1) rfl)) (by decide) (by decide)) q9a q9c (g := (mkF m 32 #[.val (.int p0), .val (.int (0 : Int32)), .val (.ref aR), .val (.ref aR), .unset, .unset] [(.ref aR)])) rfl (by rw [hml]; rfl) (Steps.refl _) (argsL := []) (rest := []) (lenOf pd_1 rfl) rfl (by show 2 * 0 + _ ≤ _; exact Nat.le_of_eq rfl) (hb hby at_32) (fun _ _ => ⟨rfl, e8, (by decide : 0 + 0 ≤ _), (by decide : 0 + 0 ≤ _)⟩)
    dsimp only [Pt.U, Pt.locs, Pt.cells, Pt.slots] at X9 l9 y9 z9 st9 hQ9
    subst l9 y9 z9
    obtain ⟨hv9, rfl, e9⟩ := hQ9
    rw [show f_taken aR aT = 0 from if_neg (Ne.symm hne)] at hv9
    subst hv9
    refine Gl.tr ?_ st9
    show Gl _ _ _ _ (T9.setTop (mkF m 35 #[.val (.int p0), .val (.int (0 : Int32)), .val (.ref aR), .val (.ref aR), .unset, .unset] [(.int (0 : Int32))]))
    refine Gl.go ?_ (fun t k => XS.iloadN X9.here hx rfl (hb hby at_35) rfl k)
    show Gl _ _ _ _ (T9.setTop (mkF m 36 #[.val (.int p0), .val (.int (0 : Int32)), .val (.ref aR), .val (.ref aR), .unset, .unset] [(.int (0 : Int32)), (.int (0 : Int32))]))
    refine Gl.go ?_ (fun t k => XS.icmpNo X9.here hx rfl (hb hby at_36) rfl (teq (by decide : (0 : Int32) = (0 : Int32))).2 k)
    show Gl _ _ _ _ (T9.setTop (mkF m 39 #[.val (.int p0), .val (.int (0 : Int32)), .val (.ref aR), .val (.ref aR), .unset, .unset] []))
    refine Gl.go ?_ (fun t k => XS.iconst X9.here hx rfl (hb hby at_39) k)
    show Gl _ _ _ _ (T9.setTop (mkF m 40 #[.val (.int p0), .val (.int (0 : Int32)), .val (.ref aR), .val (.ref aR), .unset, .unset] [(.int (1 : Int32))]))
    refine Gl.go ?_ (fun t k => XS.goto X9.here hx rfl (pc0 := 40) (pc' := 44) rfl (hb hby at_40) (by decide) (by decide) k)
    show Gl _ _ _ _ (T9.setTop (mkF m 44 #[.val (.int p0), .val (.int (0 : Int32)), .val (.ref aR), .val (.ref aR), .unset, .unset] [(.int (1 : Int32))]))
    refine Gl.go ?_ (fun t k => XS.istore X9.here hx rfl (hb hby at_44) rfl (l' := #[.val (.int p0), .val (.int (0 : Int32)), .val (.ref aR), .val (.ref aR), .val (.int (1 : Int32)), .unset]) rfl k)
    show Gl _ _ _ _ (T9.setTop (mkF m 46 #[.val (.int p0), .val (.int (0 : Int32)), .val (.ref aR), .val (.ref aR), .val (.int (1 : Int32)), .unset] []))
    refine Gl.go ?_ (fun t k => XS.aloadN X9.here hx rfl (hb hby at_46) rfl rfl k)
    show Gl _ _ _ _ (T9.setTop (mkF m 47 #[.val (.int p0), .val (.int (0 : Int32)), .val (.ref aR), .val (.ref aR), .val (.int (1 : Int32)), .unset] [(.ref aR)]))
    obtain ⟨cq10, kq10, q10a, q10b, q10c⟩ := isOf hZ e9 E_R
    obtain ⟨_, _, ⟨T10, L10, k10, n10⟩, -, X10, ⟨Lc10, hQ10, l10, y10, z10⟩, st10⟩ := X9.interfaceBack hx (xi := (⟨"com/example/clotwire/clotwire/link/Answer", "taken", "()Z"⟩ : MethodName)) (y := (⟨"com/example/clotwire/clotwire/link/Answer$Known", "taken", "()Z"⟩ : MethodName)) hown (mvT hZ (hw _ (List.mem_of_getElem? (i := 16) rfl))) (mvT hZ (hw _ (List.mem_of_getElem? (i := 17) rfl))) (mvT hZ (hw _ (List.mem_of_getElem? (i := 18) rfl))) (mvT hZ (hw _ (List.mem_of_getElem? (i := 19) rfl))) (mvT hZ (hw _ (List.mem_of_getElem? (i := 11) rfl))) (mvT hZ (hw _ (List.mem_of_getElem? (i := 20) rfl))) (mvT hZ (hw _ (List.mem_of_getElem? (i := 21) rfl))) (mvT hZ (hw _ (List.mem_of_getElem? (i := 22) rfl))) (by decide) (backOf (W := 0) (rm2 l Z a0 hw [] aR aT h0 S_KT) hZ (hw _ (List.mem_of_getElem? (i := 13) rfl)) (hw _ (List.mem_of_getElem? (i := 1) rfl)) (by decide) (by decide)) q10a q10b q10c (g := (mkF m 47 #[.val (.int p0), .val (.int (0 : Int32)), .val (.ref aR), .val (.ref aR), .val (.int (1 : Int32)), .unset] [(.ref aR)])) rfl (by rw [hml]; rfl) (Steps.refl _) (argsL := []) (rest := []) (lenOf pd_1 rfl) rfl (by show 2 * 0 + _ ≤ _; exact Nat.le_of_eq rfl) (hb hby at_47) (fun _ _ => ⟨rfl, e9, (by decide : 0 + 0 ≤ _), (by decide : 0 + 0 ≤ _)⟩)
    dsimp only [Pt.U, Pt.locs, Pt.cells, Pt.slots] at X10 l10 y10 z10 st10 hQ10
    subst l10 y10 z10
    obtain ⟨hv10, rfl, e10⟩ := hQ10
    rw [show f_taken aR aT = 0 from if_neg (Ne.symm hne)] at hv10
    subst hv10
    refine Gl.tr ?_ st10
    show Gl _ _ _ _ (T10.setTop (mkF m 52 #[.val (.int p0), .val (.int (0 : Int32)), .val (.ref aR), .val (.ref aR), .val (.int (1 : Int32)), .unset] [(.int (0 : Int32))]))
    refine Gl.go ?_ (fun t k => XS.iloadN X10.here hx rfl (hb hby at_52) rfl k)
    show Gl _ _ _ _ (T10.setTop (mkF m 53 #[.val (.int p0), .val (.int (0 : Int32)), .val (.ref aR), .val (.ref aR), .val (.int (1 : Int32)), .unset] [(.int (0 : Int32)), (.int (0 : Int32))]))
    refine Gl.go ?_ (fun t k => XS.icmpNo X10.here hx rfl (hb hby at_53) rfl (teq (by decide : (0 : Int32) = (0 : Int32))).2 k)
    show Gl _ _ _ _ (T10.setTop (mkF m 56 #[.val (.int p0), .val (.int (0 : Int32)), .val (.ref aR), .val (.ref aR), .val (.int (1 : Int32)), .unset] []))
    refine Gl.go ?_ (fun t k => XS.iconst X10.here hx rfl (hb hby at_56) k)
    show Gl _ _ _ _ (T10.setTop (mkF m 57 #[.val (.int p0), .val (.int (0 : Int32)), .val (.ref aR), .val (.ref aR), .val (.int (1 : Int32)), .unset] [(.int (1 : Int32))]))
    refine Gl.go ?_ (fun t k => XS.goto X10.here hx rfl (pc0 := 57) (pc' := 61) rfl (hb hby at_57) (by decide) (by decide) k)
    show Gl _ _ _ _ (T10.setTop (mkF m 61 #[.val (.int p0), .val (.int (0 : Int32)), .val (.ref aR), .val (.ref aR), .val (.int (1 : Int32)), .unset] [(.int (1 : Int32))]))
    refine Gl.go ?_ (fun t k => XS.istore X10.here hx rfl (hb hby at_61) rfl (l' := #[.val (.int p0), .val (.int (0 : Int32)), .val (.ref aR), .val (.ref aR), .val (.int (1 : Int32)), .val (.int (1 : Int32))]) rfl k)
    show Gl _ _ _ _ (T10.setTop (mkF m 63 #[.val (.int p0), .val (.int (0 : Int32)), .val (.ref aR), .val (.ref aR), .val (.int (1 : Int32)), .val (.int (1 : Int32))] []))
    refine Gl.go ?_ (fun t k => XS.iload X10.here hx rfl (hb hby at_63) rfl k)
    show Gl _ _ _ _ (T10.setTop (mkF m 65 #[.val (.int p0), .val (.int (0 : Int32)), .val (.ref aR), .val (.ref aR), .val (.int (1 : Int32)), .val (.int (1 : Int32))] [(.int (1 : Int32))]))
    refine Gl.go ?_ (fun t k => XS.ifNo X10.here hx rfl (hb hby at_65) rfl ((if0 _ _).trans (feq (by decide : ¬ ((1 : Int32) = (0 : Int32)))).1) k)
    show Gl _ _ _ _ (T10.setTop (mkF m 68 #[.val (.int p0), .val (.int (0 : Int32)), .val (.ref aR), .val (.ref aR), .val (.int (1 : Int32)), .val (.int (1 : Int32))] []))
    refine Gl.go ?_ (fun t k => XS.iload X10.here hx rfl (hb hby at_68) rfl k)
    show Gl _ _ _ _ (T10.setTop (mkF m 70 #[.val (.int p0), .val (.int (0 : Int32)), .val (.ref aR), .val (.ref aR), .val (.int (1 : Int32)), .val (.int (1 : Int32))] [(.int (1 : Int32))]))
    refine Gl.go ?_ (fun t k => XS.ifNo X10.here hx rfl (hb hby at_70) rfl ((if0 _ _).trans (feq (by decide : ¬ ((1 : Int32) = (0 : Int32)))).1) k)
    show Gl _ _ _ _ (T10.setTop (mkF m 73 #[.val (.int p0), .val (.int (0 : Int32)), .val (.ref aR), .val (.ref aR), .val (.int (1 : Int32)), .val (.int (1 : Int32))] []))
    refine Gl.go ?_ (fun t k => XS.aloadN X10.here hx rfl (hb hby at_73) rfl rfl k)
    show Gl _ _ _ _ (T10.setTop (mkF m 74 #[.val (.int p0), .val (.int (0 : Int32)), .val (.ref aR), .val (.ref aR), .val (.int (1 : Int32)), .val (.int (1 : Int32))] [(.ref aR)]))
    obtain ⟨cq11, kq11, q11a, q11b, q11c⟩ := isOf hZ e10 E_R
    obtain ⟨_, _, ⟨T11, L11, k11, n11⟩, -, X11, ⟨Lc11, hQ11, l11, y11, z11⟩, st11⟩ := X10.interfaceBack hx (xi := (⟨"com/example/clotwire/clotwire/link/Answer", "ready", "()Z"⟩ : MethodName)) (y := (⟨"com/example/clotwire/clotwire/link/Answer$Known", "ready", "()Z"⟩ : MethodName)) hown (mvT hZ (hw _ (List.mem_of_getElem? (i := 23) rfl))) (mvT hZ (hw _ (List.mem_of_getElem? (i := 24) rfl))) (mvT hZ (hw _ (List.mem_of_getElem? (i := 25) rfl))) (mvT hZ (hw _ (List.mem_of_getElem? (i := 26) rfl))) (mvT hZ (hw _ (List.mem_of_getElem? (i := 27) rfl))) (mvT hZ (hw _ (List.mem_of_getElem? (i := 28) rfl))) (mvT hZ (hw _ (List.mem_of_getElem? (i := 29) rfl))) (mvT hZ (hw _ (List.mem_of_getElem? (i := 22) rfl))) (by decide) (backOf (W := 0) (rm3 l Z a0 hw [] aR h0) hZ (hw _ (List.mem_of_getElem? (i := 30) rfl)) (hw _ (List.mem_of_getElem? (i := 1) rfl)) (by decide) (by decide)) q11a q11b q11c (g := (mkF m 74 #[.val (.int p0), .val (.int (0 : Int32)), .val (.ref aR), .val (.ref aR), .val (.int (1 : Int32)), .val (.int (1 : Int32))] [(.ref aR)])) rfl (by rw [hml]; rfl) (Steps.refl _) (argsL := []) (rest := []) (lenOf pd_1 rfl) rfl (by show 2 * 0 + _ ≤ _; exact Nat.le_of_eq rfl) (hb hby at_74) (fun _ _ => ⟨rfl, e10, (by decide : 0 + 0 ≤ _), (by decide : 0 + 0 ≤ _)⟩)
    dsimp only [Pt.U, Pt.locs, Pt.cells, Pt.slots] at X11 l11 y11 z11 st11 hQ11
    subst l11 y11 z11
    obtain ⟨rfl, rfl, e11⟩ := hQ11
    refine Gl.tr ?_ st11
    show Gl _ _ _ _ (T11.setTop (mkF m 79 #[.val (.int p0), .val (.int (0 : Int32)), .val (.ref aR), .val (.ref aR), .val (.int (1 : Int32)), .val (.int (1 : Int32))] [(.int (1 : Int32))]))
    refine Gl.go ?_ (fun t k => XS.ifNo X11.here hx rfl (hb hby at_79) rfl ((if0 _ _).trans (feq (by decide : ¬ ((1 : Int32) = (0 : Int32)))).1) k)
    show Gl _ _ _ _ (T11.setTop (mkF m 82 #[.val (.int p0), .val (.int (0 : Int32)), .val (.ref aR), .val (.ref aR), .val (.int (1 : Int32)), .val (.int (1 : Int32))] []))
    refine Gl.go ?_ (fun t k => XS.iconst X11.here hx rfl (hb hby at_82) k)
    show Gl _ _ _ _ (T11.setTop (mkF m 83 #[.val (.int p0), .val (.int (0 : Int32)), .val (.ref aR), .val (.ref aR), .val (.int (1 : Int32)), .val (.int (1 : Int32))] [(.int (1 : Int32))]))
    refine Gl.go ?_ (fun t k => XS.goto X11.here hx rfl (pc0 := 83) (pc' := 87) rfl (hb hby at_83) (by decide) (by decide) k)
    show Gl _ _ _ _ (T11.setTop (mkF m 87 #[.val (.int p0), .val (.int (0 : Int32)), .val (.ref aR), .val (.ref aR), .val (.int (1 : Int32)), .val (.int (1 : Int32))] [(.int (1 : Int32))]))
    obtain ⟨fs, hr, hrun, hended, hW, hsame⟩ := X11.leave (v := some (.int (1 : Int32))) (fun h => by rw [Bd.returns] at h; cases h)
    exact Gl.mk ⟨_, _, retN X11 hx (t := .boolean) Bd.returns (by simp) (hb hby at_87) hr, hrun, hended, _, _, rfl, ⟨congrArg (fun z => some (Value.int z)) ((if_pos hc6).trans (rfl)).symm, rfl, e11⟩, ⟨_, rfl⟩, hW, hsame.mono (by decide) (by decide)⟩
  · refine Gl.go ?_ (fun t k => XS.ifNo X0.here hx rfl (hb hby at_3) rfl ((if0 _ _).trans (feq hc6).1) k)
    show Gl _ _ _ _ (s₁.setTop (mkF m 6 #[.val (.int p0), .unset, .unset, .unset, .unset, .unset] []))
    refine Gl.go ?_ (fun t k => XS.iconst X0.here hx rfl (hb hby at_6) k)
    show Gl _ _ _ _ (s₁.setTop (mkF m 7 #[.val (.int p0), .unset, .unset, .unset, .unset, .unset] [(.int (1 : Int32))]))
    refine Gl.go ?_ (fun t k => XS.goto X0.here hx rfl (pc0 := 7) (pc' := 11) rfl (hb hby at_7) (by decide) (by decide) k)
    show Gl _ _ _ _ (s₁.setTop (mkF m 11 #[.val (.int p0), .unset, .unset, .unset, .unset, .unset] [(.int (1 : Int32))]))
    refine Gl.go ?_ (fun t k => XS.istoreN X0.here hx rfl (hb hby at_11) rfl (l' := #[.val (.int p0), .val (.int (1 : Int32)), .unset, .unset, .unset, .unset]) rfl k)
    show Gl _ _ _ _ (s₁.setTop (mkF m 12 #[.val (.int p0), .val (.int (1 : Int32)), .unset, .unset, .unset, .unset] []))
    refine Gl.go ?_ (fun t k => XS.iloadN X0.here hx rfl (hb hby at_12) rfl k)
    show Gl _ _ _ _ (s₁.setTop (mkF m 13 #[.val (.int p0), .val (.int (1 : Int32)), .unset, .unset, .unset, .unset] [(.int (1 : Int32))]))
    refine Gl.go ?_ (fun t k => XS.ifNo X0.here hx rfl (hb hby at_13) rfl ((if0 _ _).trans (feq (by decide : ¬ ((1 : Int32) = (0 : Int32)))).1) k)
    show Gl _ _ _ _ (s₁.setTop (mkF m 16 #[.val (.int p0), .val (.int (1 : Int32)), .unset, .unset, .unset, .unset] []))
    obtain ⟨T12, X12, e12, st12⟩ := getS2 X0 hx hZ hown (host := "") (Or.inl (hw _ (List.mem_of_getElem? (i := 31) rfl))) Via.refl e0 S_KT (g := (mkF m 16 #[.val (.int p0), .val (.int (1 : Int32)), .unset, .unset, .unset, .unset] [])) rfl (hb hby at_16)
    refine Gl.go ?_ st12
    show Gl _ _ _ _ (T12.setTop (mkF m 19 #[.val (.int p0), .val (.int (1 : Int32)), .unset, .unset, .unset, .unset] [(.ref aT)]))
    refine Gl.go ?_ (fun t k => XS.goto X12.here hx rfl (pc0 := 19) (pc' := 25) rfl (hb hby at_19) (by decide) (by decide) k)
    show Gl _ _ _ _ (T12.setTop (mkF m 25 #[.val (.int p0), .val (.int (1 : Int32)), .unset, .unset, .unset, .unset] [(.ref aT)]))
    refine Gl.go ?_ (fun t k => XS.astoreN X12.here hx rfl (hb hby at_25) rfl rfl (l' := #[.val (.int p0), .val (.int (1 : Int32)), .val (.ref aT), .unset, .unset, .unset]) rfl k)
    show Gl _ _ _ _ (T12.setTop (mkF m 26 #[.val (.int p0), .val (.int (1 : Int32)), .val (.ref aT), .unset, .unset, .unset] []))
    refine Gl.go ?_ (fun t k => XS.iloadN X12.here hx rfl (hb hby at_26) rfl k)
    show Gl _ _ _ _ (T12.setTop (mkF m 27 #[.val (.int p0), .val (.int (1 : Int32)), .val (.ref aT), .unset, .unset, .unset] [(.int (1 : Int32))]))
    obtain ⟨_, _, ⟨T13, L13, k13, n13⟩, -, X13, ⟨Lc13, hQ13, l13, y13, z13⟩, st13⟩ := Jvm.LawKit.callS X12 hx (y := (⟨"com/example/clotwire/clotwire/link/Answer", "of", "(Z)Lcom/example/clotwire/clotwire/link/Answer;"⟩ : MethodName)) hown (mvT hZ (hw _ (List.mem_of_getElem? (i := 3) rfl))) (mvT hZ (hw _ (List.mem_of_getElem? (i := 4) rfl))) (mvT hZ (hw _ (List.mem_of_getElem? (i := 5) rfl))) (mvT hZ (hw _ (List.mem_of_getElem? (i := 6) rfl))) (by decide) (backOf (W := 0) (rm1 l Z a0 hw [] (1 : Int32) aT aR h0 S_AT S_AR) hZ (hw _ (List.mem_of_getElem? (i := 6) rfl)) (hw _ (List.mem_of_getElem? (i := 5) rfl)) (by decide) (by decide)) (g := (mkF m 27 #[.val (.int p0), .val (.int (1 : Int32)), .val (.ref aT), .unset, .unset, .unset] [(.int (1 : Int32))])) rfl (by rw [hml]; rfl) (argsL := [(.int (1 : Int32))]) (rest := []) (lenOf pd_0 rfl) rfl (by show 2 * 0 + _ ≤ _; exact Nat.le_of_eq rfl) (hb hby at_27) (fun _ _ => ⟨rfl, e12, (by decide : 0 + 0 ≤ _), (by decide : 0 + 0 ≤ _)⟩)
    dsimp only [Pt.U, Pt.locs, Pt.cells, Pt.slots] at X13 l13 y13 z13 st13 hQ13
    subst l13 y13 z13
    obtain ⟨rfl, rfl, e13⟩ := hQ13
    refine Gl.go ?_ st13
    show Gl _ _ _ _ (T13.setTop (mkF m 30 #[.val (.int p0), .val (.int (1 : Int32)), .val (.ref aT), .unset, .unset, .unset] [(.ref aT)]))
    refine Gl.go ?_ (fun t k => XS.astoreN X13.here hx rfl (hb hby at_30) rfl rfl (l' := #[.val (.int p0), .val (.int (1 : Int32)), .val (.ref aT), .val (.ref aT), .unset, .unset]) rfl k)
    show Gl _ _ _ _ (T13.setTop (mkF m 31 #[.val (.int p0), .val (.int (1 : Int32)), .val (.ref aT), .val (.ref aT), .unset, .unset] []))
    refine Gl.go ?_ (fun t k => XS.aloadN X13.here hx rfl (hb hby at_31) rfl rfl k)
    show Gl _ _ _ _ (T13.setTop (mkF m 32 #[.val (.int p0), .val (.int (1 : Int32)), .val (.ref aT), .val (.ref aT), .unset, .unset] [(.ref aT)]))
    obtain ⟨cq14, kq14, q14a, q14b, q14c⟩ := isOf hZ e13 E_T
    obtain ⟨_, _, ⟨T14, L14, k14, n14⟩, -, X14, ⟨Lc14, hQ14, l14, y14, z14⟩, st14⟩ := X13.virtualBack hx (y := (⟨"com/example/clotwire/clotwire/link/Answer$Known", "taken", "()Z"⟩ : MethodName)) (z := (⟨"com/example/clotwire/clotwire/link/Answer$Known", "taken", "()Z"⟩ : MethodName)) hown (mvT hZ (hw _ (List.mem_of_getElem? (i := 9) rfl))) (mvT hZ (hw _ (List.mem_of_getElem? (i := 10) rfl))) (notFace_of_selects (args := #[]) (mvT hZ (hw _ (List.mem_of_getElem? (i := 12) rfl)))) (mvT hZ (hw _ (List.mem_of_getElem? (i := 12) rfl))) (mvT hZ (hw _ (List.mem_of_getElem? (i := 11) rfl))) (by decide) (backOf (W := 0) (rm2 l Z a0 hw [] aT aT h0 S_KT) hZ (hw _ (List.mem_of_getElem? (i := 13) rfl)) (hw _ (List.mem_of_getElem? (i := 1) rfl)) (by decide) (by decide)) q14a q14c (g := (mkF m 32 #[.val (.int p0), .val (.int (1 : Int32)), .val (.ref aT), .val (.ref aT), .unset, .unset] [(.ref aT)])) rfl (by rw [hml]; rfl) (Steps.refl _) (argsL := []) (rest := []) (lenOf pd_1 rfl) rfl (by show 2 * 0 + _ ≤ _; exact Nat.le_of_eq rfl) (hb hby at_32) (fun _ _ => ⟨rfl, e13, (by decide : 0 + 0 ≤ _), (by decide : 0 + 0 ≤ _)⟩)
    dsimp only [Pt.U, Pt.locs, Pt.cells, Pt.slots] at X14 l14 y14 z14 st14 hQ14
    subst l14 y14 z14
    obtain ⟨hv14, rfl, e14⟩ := hQ14
    rw [show f_taken aT aT = 1 from if_pos rfl] at hv14
    subst hv14
    refine Gl.tr ?_ st14
    show Gl _ _ _ _ (T14.setTop (mkF m 35 #[.val (.int p0), .val (.int (1 : Int32)), .val (.ref aT), .val (.ref aT), .unset, .unset] [(.int (1 : Int32))]))
    refine Gl.go ?_ (fun t k => XS.iloadN X14.here hx rfl (hb hby at_35) rfl k)
    show Gl _ _ _ _ (T14.setTop (mkF m 36 #[.val (.int p0), .val (.int (1 : Int32)), .val (.ref aT), .val (.ref aT), .unset, .unset] [(.int (1 : Int32)), (.int (1 : Int32))]))
    refine Gl.go ?_ (fun t k => XS.icmpNo X14.here hx rfl (hb hby at_36) rfl (teq (by decide : (1 : Int32) = (1 : Int32))).2 k)
    show Gl _ _ _ _ (T14.setTop (mkF m 39 #[.val (.int p0), .val (.int (1 : Int32)), .val (.ref aT), .val (.ref aT), .unset, .unset] []))
    refine Gl.go ?_ (fun t k => XS.iconst X14.here hx rfl (hb hby at_39) k)
    show Gl _ _ _ _ (T14.setTop (mkF m 40 #[.val (.int p0), .val (.int (1 : Int32)), .val (.ref aT), .val (.ref aT), .unset, .unset] [(.int (1 : Int32))]))
    refine Gl.go ?_ (fun t k => XS.goto X14.here hx rfl (pc0 := 40) (pc' := 44) rfl (hb hby at_40) (by decide) (by decide) k)
    show Gl _ _ _ _ (T14.setTop (mkF m 44 #[.val (.int p0), .val (.int (1 : Int32)), .val (.ref aT), .val (.ref aT), .unset, .unset] [(.int (1 : Int32))]))
    refine Gl.go ?_ (fun t k => XS.istore X14.here hx rfl (hb hby at_44) rfl (l' := #[.val (.int p0), .val (.int (1 : Int32)), .val (.ref aT), .val (.ref aT), .val (.int (1 : Int32)), .unset]) rfl k)
    show Gl _ _ _ _ (T14.setTop (mkF m 46 #[.val (.int p0), .val (.int (1 : Int32)), .val (.ref aT), .val (.ref aT), .val (.int (1 : Int32)), .unset] []))
    refine Gl.go ?_ (fun t k => XS.aloadN X14.here hx rfl (hb hby at_46) rfl rfl k)
    show Gl _ _ _ _ (T14.setTop (mkF m 47 #[.val (.int p0), .val (.int (1 : Int32)), .val (.ref aT), .val (.ref aT), .val (.int (1 : Int32)), .unset] [(.ref aT)]))
    obtain ⟨cq15, kq15, q15a, q15b, q15c⟩ := isOf hZ e14 E_T
    obtain ⟨_, _, ⟨T15, L15, k15, n15⟩, -, X15, ⟨Lc15, hQ15, l15, y15, z15⟩, st15⟩ := X14.interfaceBack hx (xi := (⟨"com/example/clotwire/clotwire/link/Answer", "taken", "()Z"⟩ : MethodName)) (y := (⟨"com/example/clotwire/clotwire/link/Answer$Known", "taken", "()Z"⟩ : MethodName)) hown (mvT hZ (hw _ (List.mem_of_getElem? (i := 16) rfl))) (mvT hZ (hw _ (List.mem_of_getElem? (i := 17) rfl))) (mvT hZ (hw _ (List.mem_of_getElem? (i := 18) rfl))) (mvT hZ (hw _ (List.mem_of_getElem? (i := 19) rfl))) (mvT hZ (hw _ (List.mem_of_getElem? (i := 11) rfl))) (mvT hZ (hw _ (List.mem_of_getElem? (i := 20) rfl))) (mvT hZ (hw _ (List.mem_of_getElem? (i := 21) rfl))) (mvT hZ (hw _ (List.mem_of_getElem? (i := 22) rfl))) (by decide) (backOf (W := 0) (rm2 l Z a0 hw [] aT aT h0 S_KT) hZ (hw _ (List.mem_of_getElem? (i := 13) rfl)) (hw _ (List.mem_of_getElem? (i := 1) rfl)) (by decide) (by decide)) q15a q15b q15c (g := (mkF m 47 #[.val (.int p0), .val (.int (1 : Int32)), .val (.ref aT), .val (.ref aT), .val (.int (1 : Int32)), .unset] [(.ref aT)])) rfl (by rw [hml]; rfl) (Steps.refl _) (argsL := []) (rest := []) (lenOf pd_1 rfl) rfl (by show 2 * 0 + _ ≤ _; exact Nat.le_of_eq rfl) (hb hby at_47) (fun _ _ => ⟨rfl, e14, (by decide : 0 + 0 ≤ _), (by decide : 0 + 0 ≤ _)⟩)
    dsimp only [Pt.U, Pt.locs, Pt.cells, Pt.slots] at X15 l15 y15 z15 st15 hQ15
    subst l15 y15 z15
    obtain ⟨hv15, rfl, e15⟩ := hQ15
    rw [show f_taken aT aT = 1 from if_pos rfl] at hv15
    subst hv15
    refine Gl.tr ?_ st15
    show Gl _ _ _ _ (T15.setTop (mkF m 52 #[.val (.int p0), .val (.int (1 : Int32)), .val (.ref aT), .val (.ref aT), .val (.int (1 : Int32)), .unset] [(.int (1 : Int32))]))
    refine Gl.go ?_ (fun t k => XS.iloadN X15.here hx rfl (hb hby at_52) rfl k)
    show Gl _ _ _ _ (T15.setTop (mkF m 53 #[.val (.int p0), .val (.int (1 : Int32)), .val (.ref aT), .val (.ref aT), .val (.int (1 : Int32)), .unset] [(.int (1 : Int32)), (.int (1 : Int32))]))
    refine Gl.go ?_ (fun t k => XS.icmpNo X15.here hx rfl (hb hby at_53) rfl (teq (by decide : (1 : Int32) = (1 : Int32))).2 k)
    show Gl _ _ _ _ (T15.setTop (mkF m 56 #[.val (.int p0), .val (.int (1 : Int32)), .val (.ref aT), .val (.ref aT), .val (.int (1 : Int32)), .unset] []))
    refine Gl.go ?_ (fun t k => XS.iconst X15.here hx rfl (hb hby at_56) k)
    show Gl _ _ _ _ (T15.setTop (mkF m 57 #[.val (.int p0), .val (.int (1 : Int32)), .val (.ref aT), .val (.ref aT), .val (.int (1 : Int32)), .unset] [(.int (1 : Int32))]))
    refine Gl.go ?_ (fun t k => XS.goto X15.here hx rfl (pc0 := 57) (pc' := 61) rfl (hb hby at_57) (by decide) (by decide) k)
    show Gl _ _ _ _ (T15.setTop (mkF m 61 #[.val (.int p0), .val (.int (1 : Int32)), .val (.ref aT), .val (.ref aT), .val (.int (1 : Int32)), .unset] [(.int (1 : Int32))]))
    refine Gl.go ?_ (fun t k => XS.istore X15.here hx rfl (hb hby at_61) rfl (l' := #[.val (.int p0), .val (.int (1 : Int32)), .val (.ref aT), .val (.ref aT), .val (.int (1 : Int32)), .val (.int (1 : Int32))]) rfl k)
    show Gl _ _ _ _ (T15.setTop (mkF m 63 #[.val (.int p0), .val (.int (1 : Int32)), .val (.ref aT), .val (.ref aT), .val (.int (1 : Int32)), .val (.int (1 : Int32))] []))
    refine Gl.go ?_ (fun t k => XS.iload X15.here hx rfl (hb hby at_63) rfl k)
    show Gl _ _ _ _ (T15.setTop (mkF m 65 #[.val (.int p0), .val (.int (1 : Int32)), .val (.ref aT), .val (.ref aT), .val (.int (1 : Int32)), .val (.int (1 : Int32))] [(.int (1 : Int32))]))
    refine Gl.go ?_ (fun t k => XS.ifNo X15.here hx rfl (hb hby at_65) rfl ((if0 _ _).trans (feq (by decide : ¬ ((1 : Int32) = (0 : Int32)))).1) k)
    show Gl _ _ _ _ (T15.setTop (mkF m 68 #[.val (.int p0), .val (.int (1 : Int32)), .val (.ref aT), .val (.ref aT), .val (.int (1 : Int32)), .val (.int (1 : Int32))] []))
    refine Gl.go ?_ (fun t k => XS.iload X15.here hx rfl (hb hby at_68) rfl k)
    show Gl _ _ _ _ (T15.setTop (mkF m 70 #[.val (.int p0), .val (.int (1 : Int32)), .val (.ref aT), .val (.ref aT), .val (.int (1 : Int32)), .val (.int (1 : Int32))] [(.int (1 : Int32))]))
    refine Gl.go ?_ (fun t k => XS.ifNo X15.here hx rfl (hb hby at_70) rfl ((if0 _ _).trans (feq (by decide : ¬ ((1 : Int32) = (0 : Int32)))).1) k)
    show Gl _ _ _ _ (T15.setTop (mkF m 73 #[.val (.int p0), .val (.int (1 : Int32)), .val (.ref aT), .val (.ref aT), .val (.int (1 : Int32)), .val (.int (1 : Int32))] []))
    refine Gl.go ?_ (fun t k => XS.aloadN X15.here hx rfl (hb hby at_73) rfl rfl k)
    show Gl _ _ _ _ (T15.setTop (mkF m 74 #[.val (.int p0), .val (.int (1 : Int32)), .val (.ref aT), .val (.ref aT), .val (.int (1 : Int32)), .val (.int (1 : Int32))] [(.ref aT)]))
    obtain ⟨cq16, kq16, q16a, q16b, q16c⟩ := isOf hZ e15 E_T
    obtain ⟨_, _, ⟨T16, L16, k16, n16⟩, -, X16, ⟨Lc16, hQ16, l16, y16, z16⟩, st16⟩ := X15.interfaceBack hx (xi := (⟨"com/example/clotwire/clotwire/link/Answer", "ready", "()Z"⟩ : MethodName)) (y := (⟨"com/example/clotwire/clotwire/link/Answer$Known", "ready", "()Z"⟩ : MethodName)) hown (mvT hZ (hw _ (List.mem_of_getElem? (i := 23) rfl))) (mvT hZ (hw _ (List.mem_of_getElem? (i := 24) rfl))) (mvT hZ (hw _ (List.mem_of_getElem? (i := 25) rfl))) (mvT hZ (hw _ (List.mem_of_getElem? (i := 26) rfl))) (mvT hZ (hw _ (List.mem_of_getElem? (i := 27) rfl))) (mvT hZ (hw _ (List.mem_of_getElem? (i := 28) rfl))) (mvT hZ (hw _ (List.mem_of_getElem? (i := 29) rfl))) (mvT hZ (hw _ (List.mem_of_getElem? (i := 22) rfl))) (by decide) (backOf (W := 0) (rm3 l Z a0 hw [] aT h0) hZ (hw _ (List.mem_of_getElem? (i := 30) rfl)) (hw _ (List.mem_of_getElem? (i := 1) rfl)) (by decide) (by decide)) q16a q16b q16c (g := (mkF m 74 #[.val (.int p0), .val (.int (1 : Int32)), .val (.ref aT), .val (.ref aT), .val (.int (1 : Int32)), .val (.int (1 : Int32))] [(.ref aT)])) rfl (by rw [hml]; rfl) (Steps.refl _) (argsL := []) (rest := []) (lenOf pd_1 rfl) rfl (by show 2 * 0 + _ ≤ _; exact Nat.le_of_eq rfl) (hb hby at_74) (fun _ _ => ⟨rfl, e15, (by decide : 0 + 0 ≤ _), (by decide : 0 + 0 ≤ _)⟩)
    dsimp only [Pt.U, Pt.locs, Pt.cells, Pt.slots] at X16 l16 y16 z16 st16 hQ16
    subst l16 y16 z16
    obtain ⟨rfl, rfl, e16⟩ := hQ16
    refine Gl.tr ?_ st16
    show Gl _ _ _ _ (T16.setTop (mkF m 79 #[.val (.int p0), .val (.int (1 : Int32)), .val (.ref aT), .val (.ref aT), .val (.int (1 : Int32)), .val (.int (1 : Int32))] [(.int (1 : Int32))]))
    refine Gl.go ?_ (fun t k => XS.ifNo X16.here hx rfl (hb hby at_79) rfl ((if0 _ _).trans (feq (by decide : ¬ ((1 : Int32) = (0 : Int32)))).1) k)
    show Gl _ _ _ _ (T16.setTop (mkF m 82 #[.val (.int p0), .val (.int (1 : Int32)), .val (.ref aT), .val (.ref aT), .val (.int (1 : Int32)), .val (.int (1 : Int32))] []))
    refine Gl.go ?_ (fun t k => XS.iconst X16.here hx rfl (hb hby at_82) k)
    show Gl _ _ _ _ (T16.setTop (mkF m 83 #[.val (.int p0), .val (.int (1 : Int32)), .val (.ref aT), .val (.ref aT), .val (.int (1 : Int32)), .val (.int (1 : Int32))] [(.int (1 : Int32))]))
    refine Gl.go ?_ (fun t k => XS.goto X16.here hx rfl (pc0 := 83) (pc' := 87) rfl (hb hby at_83) (by decide) (by decide) k)
    show Gl _ _ _ _ (T16.setTop (mkF m 87 #[.val (.int p0), .val (.int (1 : Int32)), .val (.ref aT), .val (.ref aT), .val (.int (1 : Int32)), .val (.int (1 : Int32))] [(.int (1 : Int32))]))
    obtain ⟨fs, hr, hrun, hended, hW, hsame⟩ := X16.leave (v := some (.int (1 : Int32))) (fun h => by rw [Bd.returns] at h; cases h)
    exact Gl.mk ⟨_, _, retN X16 hx (t := .boolean) Bd.returns (by simp) (hb hby at_87) hr, hrun, hended, _, _, rfl, ⟨congrArg (fun z => some (Value.int z)) ((if_neg hc6).trans (rfl)).symm, rfl, e16⟩, ⟨_, rfl⟩, hW, hsame.mono (by decide) (by decide)⟩
theorem own_one (p0 : Int32) (aT aR : Addr) : f_law p0 aT aR = 1 := by unfold f_law; split <;> rfl
set_option maxRecDepth 65536 in
set_option maxHeartbeats 40000000 in
theorem comes_1 {Post : Tables → Env → Array Value → State → Outcome → State → Prop} (hpost : ∀ tb e args s v u, (limb_1_1.after args s (.returned v) u = true ∧ limb_1_2.after args s (.returned v) u = true ∧ True) → FrameEnd s (.returned v) u (Jvm.fieldLocs frame_1_writes args s ++ Jvm.arrayLocs frame_1_arrays args s ++ Jvm.staticLocs frame_1_statics s) 0 0 → Post tb e args s (.returned v) u) :
    ArmFor flags0 classFile x code maxLocals ret World_1 tables_1 room_1 Calls_1 rest_1 Pre_1 Post := by
  intro l hfl _ _ p e ha hc hk s m args below hf hA hF happ hP
  obtain ⟨hcalls, hrest, hpre⟩ := hP
  obtain ⟨-, -, -, hnamed, -, -, -, hat⟩ := (Spec.applies_iff hf).mp happ
  obtain ⟨hg, hn⟩ := and_e (Cond.before_iff.mp (show (Jvm.Cond.and given_1 narrow_1).before args s = true from hpre))
  obtain ⟨g1, g2⟩ := and_e hg
  obtain ⟨g3, g4⟩ := and_e hn
  obtain ⟨g5, g6⟩ := and_e g4
  obtain ⟨g7, g8⟩ := and_e g6
  obtain ⟨g9, g10⟩ := and_e g8
  obtain ⟨g11, g12⟩ := and_e g10
  obtain ⟨w0, rfl⟩ : ∃ w0 : Value, args = #[w0] := by
    have hs : args.size = 1 := by simpa [Cond.value, given_1] using g1
    obtain ⟨L⟩ := args
    match L, hs with
    | [w0], _ => exact ⟨w0, rfl⟩
  have hw := fun d (hd : d ∈ tables_1) => atoms_spec (ws := Jvm.Cond.code x code maxLocals ret :: tables_1) hat d (List.mem_cons_of_mem _ hd)
  have hfit : Fit s := fun {y c} hc i hi => by
    obtain ⟨ha, rfl⟩ := Array.getElem?_eq_some_iff.mp hc
    have q := List.all_eq_true.mp ((Array.all_eq_true_iff_forall_mem.mp hF) _ (Array.getElem_mem ha)) i (List.mem_range.mpr hi)
    simpa [Array.getElem?_eq_getElem hi] using q
  obtain ⟨i0, ei0⟩ := is_v g2
  obtain rfl : w0 = (.int i0) := Option.some.inj ei0
  obtain ⟨a_Answer_Known_REFUSED, ev_Answer_Known_REFUSED⟩ := exa_v g3
  have E_Answer_Known_REFUSED := Exa.start ev_Answer_Known_REFUSED g3
  have S_Answer_Known_REFUSED := Sta.start ev_Answer_Known_REFUSED (Or.inr ⟨(hw _ (List.mem_of_getElem? (i := 1) rfl)), (hw _ (List.mem_of_getElem? (i := 2) rfl))⟩)
  have ev_Answer_REFUSED := own_eqv g5 ev_Answer_Known_REFUSED (Or.inl rfl)
  have S_Answer_REFUSED := Sta.start ev_Answer_REFUSED (Or.inr ⟨(hw _ (List.mem_of_getElem? (i := 5) rfl)), (hw _ (List.mem_of_getElem? (i := 8) rfl))⟩)
  obtain ⟨a_Answer_Known_TAKEN, ev_Answer_Known_TAKEN⟩ := exa_v g7
  have E_Answer_Known_TAKEN := Exa.start ev_Answer_Known_TAKEN g7
  have S_Answer_Known_TAKEN := Sta.start ev_Answer_Known_TAKEN (Or.inr ⟨(hw _ (List.mem_of_getElem? (i := 1) rfl)), (hw _ (List.mem_of_getElem? (i := 15) rfl))⟩)
  have F_Answer_Known_REFUSED_ordinal := Fld.start ((fld_at ev_Answer_Known_REFUSED).symm.trans (own_eqv g9 (Term.int_eval (1)) (Or.inr ⟨_, rfl⟩)))
  have F_Answer_Known_TAKEN_ordinal := Fld.start ((fld_at ev_Answer_Known_TAKEN).symm.trans (own_eqv g11 (Term.int_eval (0)) (Or.inr ⟨_, rfl⟩)))
  have ev_Answer_TAKEN := own_eqv g12 ev_Answer_Known_TAKEN (Or.inl rfl)
  have S_Answer_TAKEN := Sta.start ev_Answer_TAKEN (Or.inr ⟨(hw _ (List.mem_of_getElem? (i := 5) rfl)), (hw _ (List.mem_of_getElem? (i := 33) rfl))⟩)
  have hne := Fld.ne F_Answer_Known_TAKEN_ordinal F_Answer_Known_REFUSED_ordinal (by simp)
  obtain ⟨n, o, h1, h2, h3, _, L, rfl, ⟨rfl, rfl, -⟩, hq⟩ := rm0 l s _ hw tables_1 i0 a_Answer_Known_TAKEN a_Answer_Known_REFUSED s.heap S_Answer_TAKEN S_Answer_REFUSED S_Answer_Known_TAKEN S_Answer_Known_REFUSED E_Answer_Known_TAKEN E_Answer_Known_REFUSED hne p e ha hc hk s m _ below hf ((Spec.applies_iff_loose hf).mp happ).1 ⟨rfl, State.Warmed39.refl s, rfl⟩ trivial
  refine ⟨n, _, h1, h2, h3, hpost _ _ _ _ _ _ ⟨Cond.after_iff.mpr rfl, Cond.after_iff.mpr (eq_i res_at (Term.int_eval (1)) (congrArg Value.int (own_one _ _ _))), trivial⟩ ⟨hq.1, hq.2.1, (hq.2.2.sift fun y hy => nomatch hy).mono (by decide) (by decide)⟩⟩
theorem main_1_1 : Claimed_1_1 := comes_1 fun _ _ _ _ _ _ h hF => ⟨h.1, hF⟩
theorem main_1_2 : Claimed_1_2 := comes_1 fun _ _ _ _ _ _ h hF => ⟨h.2.1, hF⟩
end Jvm.Pilot.@@N@@
namespace Jvm.Pilot.@@N@@
open Jvm Jvm.ClassFile Sem Op Lib Jvm.Free Jvm.Stand Jvm.Pilot.@@N@@.Jvm.D
/-! MADE BY PROGRAM (witnessworld.py) out of the Statement's table words and the real class files: 13 classes; the members and pool entries that the words name. The judged class is class 1, her method 1. -/
namespace start1
open Jvm.ClassFile
def u (s : String) : CpInfo := .utf8 (stringToUtf16 s)
/-- a pool by its gaps: so many unusable entries, then the entry; so many at the end -/
def gap : Nat → List CpInfo → List CpInfo
  | 0, r => r
  | n + 1, r => .unusable :: gap n r
def poolList (es : List (Nat × CpInfo)) (last : Nat) : List CpInfo := es.foldr (fun e r => gap e.1 (e.2 :: r)) (gap last [])
def pool (es : List (Nat × CpInfo)) (last : Nat) : Array CpInfo := ⟨poolList es last⟩
def fileOf (pool : Array CpInfo) (this : Nat) (attrs : Array Attribute := #[]) (ms : Array MethodInfo := #[]) (fl : Nat := 33) (sup : Nat := 0) (ifs : Array Nat := #[]) (fds : Array FieldInfo := #[]) : ClassFile where
  minorVersion := 0
  majorVersion := 65
  constantPool := pool
  accessFlags := fl
  thisClass := this
  superClass := sup
  interfaces := ifs
  fields := fds
  methods := ms
  attributes := attrs
def plain (name : String) (sup : Option ClassId) : Class where
  name := name
  kind := .ordinary
  loader := none
  accessFlags := 33
  super := sup
  interfaces := #[]
  cf := none
  fields := #[]
  methods := #[]
  instanceTypes := #[]
  staticTypes := #[]
  resolved := #[]
  callSites := []
  init := .initialized
  statics := none
  mirror := none

def pool0 : Array CpInfo := pool [(5, u "<init>"), (0, u "()V"), (1, .class_ 10), (1, u "java/lang/Object")] 113

def k0m0 : Method := { name := "<init>", desc := "()V", sig := { parameters := [], returnType := none }, accessFlags := 1, code := none }
/-- java/lang/Object -/
def k0 : Class := { plain "java/lang/Object" none with
  accessFlags := 33
  interfaces := #[]
  cf := some (fileOf pool0 8 #[] #[{ accessFlags := 1, nameIndex := 5, descriptorIndex := 6, attributes := #[] }] 33 0 #[] #[])
  fields := #[]
  methods := #[k0m0]
  instanceTypes := #[]
  staticTypes := #[]
  resolved := Array.replicate 124 none
  statics := none }

def pool1 : Array CpInfo := pool [(2, .class_ 4), (1, u "java/lang/Object"), (0, u "<init>"), (0, u "()V"), (0, .fieldref 8 9), (0, .class_ 10), (0, .nameAndType 11 12), (0, u "com/example/clotwire/clotwire/link/Answer$Known"), (0, u "TAKEN"), (0, u "Lcom/example/clotwire/clotwire/link/Answer$Known;"), (0, .fieldref 8 14), (0, .nameAndType 15 12), (0, u "REFUSED"), (0, .interfaceMethodref 17 18), (0, .class_ 19), (0, .nameAndType 20 21), (0, u "com/example/clotwire/clotwire/link/Answer"), (0, u "of"), (0, u "(Z)Lcom/example/clotwire/clotwire/link/Answer;"), (0, .methodref 8 23), (0, .nameAndType 24 25), (0, u "taken"), (0, u "()Z"), (0, .interfaceMethodref 17 23), (0, .interfaceMethodref 17 28), (0, .nameAndType 29 25), (0, u "ready"), (0, .class_ 31), (0, u "com/example/clotwire/clotwire/link/KnownTakenPinLaw"), (2, u "law"), (0, u "(I)Z")] 5

def k1m0 : Method := { name := "<init>", desc := "()V", sig := { parameters := [], returnType := none }, accessFlags := 1, code := none }
def k1c1 : Code := { maxStack := 2, maxLocals := 6, code := code, exceptionTable := #[], attributes := #[] }
def k1m1 : Method := { name := "law", desc := "(I)Z", sig := { parameters := [.int], returnType := some .boolean }, accessFlags := 9, code := some k1c1 }
/-- com/example/clotwire/clotwire/link/KnownTakenPinLaw -/
def k1 : Class := { plain "com/example/clotwire/clotwire/link/KnownTakenPinLaw" (some 0) with
  accessFlags := 49
  interfaces := #[]
  cf := some (fileOf pool1 30 #[] #[{ accessFlags := 1, nameIndex := 5, descriptorIndex := 6, attributes := #[] }, { accessFlags := 9, nameIndex := 34, descriptorIndex := 35, attributes := #[] }] 49 2 #[] #[])
  fields := #[]
  methods := #[k1m0, k1m1]
  instanceTypes := #[]
  staticTypes := #[]
  resolved := Array.replicate 41 none
  statics := none }

def pool2 : Array CpInfo := pool [(1, .class_ 2), (0, u "java/lang/constant/Constable"), (0, .class_ 4), (0, u "java/lang/Object")] 6

/-- java/lang/constant/Constable -/
def k2 : Class := { plain "java/lang/constant/Constable" (some 0) with
  accessFlags := 1537
  interfaces := #[]
  cf := some (fileOf pool2 1 #[] #[] 1537 3 #[] #[])
  fields := #[]
  methods := #[]
  instanceTypes := #[]
  staticTypes := #[]
  resolved := Array.replicate 11 none
  statics := none }

def pool3 : Array CpInfo := pool [(1, .class_ 2), (0, u "java/lang/Comparable"), (0, .class_ 4), (0, u "java/lang/Object")] 7

/-- java/lang/Comparable -/
def k3 : Class := { plain "java/lang/Comparable" (some 0) with
  accessFlags := 1537
  interfaces := #[]
  cf := some (fileOf pool3 1 #[] #[] 1537 3 #[] #[])
  fields := #[]
  methods := #[]
  instanceTypes := #[]
  staticTypes := #[]
  resolved := Array.replicate 12 none
  statics := none }

def pool4 : Array CpInfo := pool [(1, .class_ 2), (0, u "java/io/Serializable"), (0, .class_ 4), (0, u "java/lang/Object")] 2

/-- java/io/Serializable -/
def k4 : Class := { plain "java/io/Serializable" (some 0) with
  accessFlags := 1537
  interfaces := #[]
  cf := some (fileOf pool4 1 #[] #[] 1537 3 #[] #[])
  fields := #[]
  methods := #[]
  instanceTypes := #[]
  staticTypes := #[]
  resolved := Array.replicate 7 none
  statics := none }

def pool5 : Array CpInfo := pool [(2, .class_ 4), (1, u "java/lang/Enum"), (0, u "name"), (0, u "Ljava/lang/String;"), (2, u "ordinal"), (0, u "I"), (1, .class_ 14), (1, u "java/lang/Object"), (4, u "hash"), (86, .class_ 108), (1, u "java/lang/Enum$EnumDesc"), (2, .class_ 112), (0, u "java/lang/constant/Constable"), (0, .class_ 114), (0, u "java/lang/Comparable"), (0, .class_ 116), (0, u "java/io/Serializable")] 87

/-- java/lang/Enum -/
def k5 : Class := { plain "java/lang/Enum" (some 0) with
  accessFlags := 1057
  interfaces := #[2, 3, 4]
  cf := some (fileOf pool5 2 #[.nestMembers #[106]] #[] 1057 12 #[111, 113, 115] #[{ accessFlags := 18, nameIndex := 5, descriptorIndex := 6, attributes := #[] }, { accessFlags := 18, nameIndex := 9, descriptorIndex := 10, attributes := #[] }, { accessFlags := 2, nameIndex := 19, descriptorIndex := 10, attributes := #[] }])
  fields := #[{ name := "name", type := (.object "java/lang/String"), accessFlags := 18, slot := 0, constantValue := 0 }, { name := "ordinal", type := .int, accessFlags := 18, slot := 1, constantValue := 0 }, { name := "hash", type := .int, accessFlags := 2, slot := 2, constantValue := 0 }]
  methods := #[]
  instanceTypes := #[(.object "java/lang/String"), .int, .int]
  staticTypes := #[]
  resolved := Array.replicate 204 none
  statics := none }

def pool6 : Array CpInfo := pool [(1, .fieldref 2 3), (0, .class_ 4), (0, .nameAndType 5 6), (0, u "com/example/clotwire/clotwire/link/Answer"), (0, u "TAKEN"), (0, u "Lcom/example/clotwire/clotwire/link/Answer;"), (0, .fieldref 2 8), (0, .nameAndType 9 6), (0, u "REFUSED"), (1, .class_ 13), (1, u "com/example/clotwire/clotwire/link/Answer$Known"), (3, .class_ 18), (0, u "java/lang/Object"), (0, u "of"), (0, u "(Z)Lcom/example/clotwire/clotwire/link/Answer;"), (3, u "ready"), (0, u "()Z"), (0, u "taken")] 9

def k6c0 : Code := { maxStack := 1, maxLocals := 1, code := prog_53_method_1_code, exceptionTable := #[], attributes := #[] }
def k6m0 : Method := { name := "of", desc := "(Z)Lcom/example/clotwire/clotwire/link/Answer;", sig := { parameters := [.boolean], returnType := some (.object "com/example/clotwire/clotwire/link/Answer") }, accessFlags := 9, code := some k6c0 }
def k6m1 : Method := { name := "ready", desc := "()Z", sig := { parameters := [], returnType := some .boolean }, accessFlags := 1025, code := none }
def k6m2 : Method := { name := "taken", desc := "()Z", sig := { parameters := [], returnType := some .boolean }, accessFlags := 1025, code := none }
/-- com/example/clotwire/clotwire/link/Answer -/
def k6 : Class := { plain "com/example/clotwire/clotwire/link/Answer" (some 0) with
  accessFlags := 1537
  interfaces := #[]
  cf := some (fileOf pool6 2 #[.nestMembers #[11]] #[{ accessFlags := 9, nameIndex := 19, descriptorIndex := 20, attributes := #[] }, { accessFlags := 1025, nameIndex := 24, descriptorIndex := 25, attributes := #[] }, { accessFlags := 1025, nameIndex := 26, descriptorIndex := 25, attributes := #[] }] 1537 17 #[] #[{ accessFlags := 25, nameIndex := 5, descriptorIndex := 6, attributes := #[] }, { accessFlags := 25, nameIndex := 9, descriptorIndex := 6, attributes := #[] }])
  fields := #[{ name := "TAKEN", type := (.object "com/example/clotwire/clotwire/link/Answer"), accessFlags := 25, slot := 0, constantValue := 0 }, { name := "REFUSED", type := (.object "com/example/clotwire/clotwire/link/Answer"), accessFlags := 25, slot := 1, constantValue := 0 }]
  methods := #[k6m0, k6m1, k6m2]
  instanceTypes := #[]
  staticTypes := #[(.object "com/example/clotwire/clotwire/link/Answer"), (.object "com/example/clotwire/clotwire/link/Answer")]
  resolved := Array.replicate 36 none
  statics := some 0 }

def pool7 : Array CpInfo := pool [(1, .class_ 2), (0, u "com/example/clotwire/clotwire/link/Answer$Known"), (0, .fieldref 1 4), (0, .nameAndType 5 6), (0, u "TAKEN"), (0, u "Lcom/example/clotwire/clotwire/link/Answer$Known;"), (2, u "REFUSED"), (2, u "$VALUES"), (0, u "[Lcom/example/clotwire/clotwire/link/Answer$Known;"), (6, .class_ 22), (1, u "java/lang/Enum"), (19, .class_ 43), (0, u "com/example/clotwire/clotwire/link/Answer"), (6, u "ready"), (0, u "()Z"), (0, u "taken")] 10

def k7c0 : Code := { maxStack := 1, maxLocals := 1, code := prog_54_method_4_code, exceptionTable := #[], attributes := #[] }
def k7m0 : Method := { name := "ready", desc := "()Z", sig := { parameters := [], returnType := some .boolean }, accessFlags := 1, code := some k7c0 }
def k7c1 : Code := { maxStack := 2, maxLocals := 1, code := prog_54_method_5_code, exceptionTable := #[], attributes := #[] }
def k7m1 : Method := { name := "taken", desc := "()Z", sig := { parameters := [], returnType := some .boolean }, accessFlags := 1, code := some k7c1 }
/-- com/example/clotwire/clotwire/link/Answer$Known -/
def k7 : Class := { plain "com/example/clotwire/clotwire/link/Answer$Known" (some 5) with
  accessFlags := 16433
  interfaces := #[6]
  cf := some (fileOf pool7 1 #[.nestHost 42] #[{ accessFlags := 1, nameIndex := 50, descriptorIndex := 51, attributes := #[] }, { accessFlags := 1, nameIndex := 52, descriptorIndex := 51, attributes := #[] }] 16433 20 #[42] #[{ accessFlags := 16409, nameIndex := 5, descriptorIndex := 6, attributes := #[] }, { accessFlags := 16409, nameIndex := 9, descriptorIndex := 6, attributes := #[] }, { accessFlags := 4122, nameIndex := 12, descriptorIndex := 13, attributes := #[] }])
  fields := #[{ name := "TAKEN", type := (.object "com/example/clotwire/clotwire/link/Answer$Known"), accessFlags := 16409, slot := 0, constantValue := 0 }, { name := "REFUSED", type := (.object "com/example/clotwire/clotwire/link/Answer$Known"), accessFlags := 16409, slot := 1, constantValue := 0 }, { name := "$VALUES", type := (.array (.object "com/example/clotwire/clotwire/link/Answer$Known")), accessFlags := 4122, slot := 2, constantValue := 0 }]
  methods := #[k7m0, k7m1]
  instanceTypes := #[(.object "java/lang/String"), .int, .int]
  staticTypes := #[(.object "com/example/clotwire/clotwire/link/Answer$Known"), (.object "com/example/clotwire/clotwire/link/Answer$Known"), (.array (.object "com/example/clotwire/clotwire/link/Answer$Known"))]
  resolved := Array.replicate 63 none
  statics := some 1 }

def pool8 : Array CpInfo := pool [(1, u "java/lang/Cloneable"), (0, .class_ 1), (0, u "java/lang/Object"), (0, .class_ 3)] 3

/-- java/lang/Cloneable -/
def k8 : Class := { plain "java/lang/Cloneable" (some 0) with
  accessFlags := 1537
  interfaces := #[]
  cf := some (fileOf pool8 2 #[] #[] 1537 4 #[] #[])
  fields := #[]
  methods := #[]
  instanceTypes := #[]
  staticTypes := #[]
  resolved := Array.replicate 8 none
  statics := none }

/-- the primitive byte -/
def k9 : Class := { plain "byte" none with kind := .primitive 'B', accessFlags := 0x411 }
/-- [B -/
def k10 : Class := { plain "[B" (some 0) with kind := .array 9 .byte, interfaces := #[8, 4], accessFlags := 1041 }

/-- the primitive int -/
def k11 : Class := { plain "int" none with kind := .primitive 'I', accessFlags := 0x411 }
/-- [I -/
def k12 : Class := { plain "[I" (some 0) with kind := .array 11 .int, interfaces := #[8, 4], accessFlags := 1041 }

def heap : Heap := #[{ cls := 6, slots := #[.ref 2, .ref 3], vm := .statics 6 },
  { cls := 7, slots := #[.ref 2, .ref 3, .null], vm := .statics 7 },
  { cls := 7, slots := #[.null, .int 0, .int 0], vm := .none },
  { cls := 7, slots := #[.null, .int 1, .int 0], vm := .none }]
def classes : Array Class := #[k0, k1, k2, k3, k4, k5, k6, k7, k8, k9, k10, k11, k12]
def interned : List (Array UInt16 × Addr) := []
def slotsUsed : Nat := 11
def theMethod : MethodId := ⟨1, 1⟩
def args0 : Array Value := #[.int 5]
def aboutOver (below : List Frame) : State where
  vm := { classes := classes, interned := interned.toArray }
  heap := heap
  slotsUsed := slotsUsed
  threads := #[{ frames := .invoking theMethod args0 :: below }]
def below0 : List Frame := [.native { method := ⟨0, 0⟩, args := #[] }]
def about1 : State := aboutOver below0
def p0 : Program := .bare "" "" ""
def e0 : Env := launch0.env 0 0 0
theorem w_frames : about1.frames = Frame.invoking theMethod args0 :: below0 := rfl
set_option maxRecDepth 65536 in
theorem w_args : argsFit about1.vm theMethod args0 = true := by decide +kernel
set_option maxRecDepth 65536 in
theorem w_heap : heapFits about1 = true := by decide +kernel
set_option maxRecDepth 65536 in
theorem w_runnable : about1.curStatus? = some .runnable := by decide +kernel
set_option maxRecDepth 65536 in
theorem w_alone : about1.alone = true := by decide +kernel
set_option maxRecDepth 65536 in
theorem w_named : about1.methodNamed? x = some theMethod := by decide +kernel
set_option maxRecDepth 65536 in
theorem w_hears : about1.hears theMethod below0 = true := by decide +kernel
set_option maxRecDepth 65536 in
theorem w_ripe : about1.ripe theMethod args0 below0 = true := by decide +kernel
theorem w_running : about1.status = .running := rfl
set_option maxRecDepth 65536 in
theorem w_room : about1.hasRoom e0.platform room_1 = true :=
  launch0.hasRoom_least _ room_1 (by decide +kernel) (by decide +kernel) (by decide +kernel) (by decide +kernel) (by decide +kernel) (by decide +kernel)
theorem allAtoms_all (ts : List Jvm.Cond) (a : Array Jvm.Value) (st : Jvm.State) : (allAtoms ts).before a st = ts.all (fun c => c.before a st) := by
  induction ts with
  | nil => rfl
  | cons c t ih =>
    show (Jvm.Cond.and c (allAtoms t)).before a st = _
    rw [Jvm.Cond.before_and, ih, List.all_cons]
def words1 : List Jvm.Cond := Jvm.Cond.code x code maxLocals ret :: tables_1
/-- a 'code' word, met by the world's own term for the bytes: nothing is compared byte by byte -/
theorem code_word {y : MethodName} {bytes : ByteArray} {mx : Nat} {rt : Option FieldType} {a : Array Value} {s : State} {m : MethodId} {meth : Method} {c : Code} (h1 : s.methodNamed? y = some m) (h2 : s.vm.method? m = some meth) (h3 : meth.code = some c) (h4 : c.code = bytes)
    (h5 : (c.maxLocals == mx && c.exceptionTable.isEmpty && decide (c.maxStack ≤ mostOperands) && decide (meth.sig.returnType = rt) && !meth.locks && decide (parseMethodDescriptor y.desc = some meth.sig)) = true) : (Jvm.Cond.code y bytes mx rt).before a s = true := by
  simp only [Bool.and_eq_true, beq_iff_eq, Bool.not_eq_true', decide_eq_true_eq] at h5
  obtain ⟨⟨⟨⟨⟨g1, g2⟩, g3⟩, g4⟩, g5⟩, g6⟩ := h5
  simp [Cond.before, Cond.holds, Cond.value, h1, h2, h3, h4, g1, g2, g3, g4, g5, g6]
def isCode : Jvm.Cond → Bool
  | .code _ _ _ _ => true
  | _ => false
theorem all_split {L : List Jvm.Cond} {P : Jvm.Cond → Bool} (h1 : L.all (fun c => isCode c || P c) = true) (h2 : ∀ c ∈ L.filter isCode, P c = true) : L.all P = true := by
  refine List.all_eq_true.mpr fun c hc => ?_
  have h := List.all_eq_true.mp h1 c hc
  rcases Bool.eq_false_or_eq_true (isCode c) with hi | hi
  · exact h2 c (List.mem_filter.mpr ⟨hc, hi⟩)
  · simpa [hi] using h
set_option maxRecDepth 65536 in
theorem w_c0 : (Jvm.Cond.code x code maxLocals ret).before args0 about1 = true := code_word (m := ⟨1, 1⟩) (meth := k1m1) (c := k1c1) (by decide +kernel) rfl rfl rfl (by decide +kernel)
set_option maxRecDepth 65536 in
theorem w_c1 : (Jvm.Cond.code ({ cls := "com/example/clotwire/clotwire/link/Answer", name := "of", desc := "(Z)Lcom/example/clotwire/clotwire/link/Answer;" } : Jvm.MethodName) prog_53_method_1_code (1 : Nat) (Option.some (Jvm.ClassFile.FieldType.object "com/example/clotwire/clotwire/link/Answer"))).before args0 about1 = true := code_word (m := ⟨6, 0⟩) (meth := k6m0) (c := k6c0) (by decide +kernel) rfl rfl rfl (by decide +kernel)
set_option maxRecDepth 65536 in
theorem w_c2 : (Jvm.Cond.code ({ cls := "com/example/clotwire/clotwire/link/Answer$Known", name := "taken", desc := "()Z" } : Jvm.MethodName) prog_54_method_5_code (1 : Nat) (Option.some Jvm.ClassFile.FieldType.boolean)).before args0 about1 = true := code_word (m := ⟨7, 1⟩) (meth := k7m1) (c := k7c1) (by decide +kernel) rfl rfl rfl (by decide +kernel)
set_option maxRecDepth 65536 in
theorem w_c3 : (Jvm.Cond.code ({ cls := "com/example/clotwire/clotwire/link/Answer$Known", name := "ready", desc := "()Z" } : Jvm.MethodName) prog_54_method_4_code (1 : Nat) (Option.some Jvm.ClassFile.FieldType.boolean)).before args0 about1 = true := code_word (m := ⟨7, 0⟩) (meth := k7m0) (c := k7c0) (by decide +kernel) rfl rfl rfl (by decide +kernel)
def codes1 : List Jvm.Cond := [Jvm.Cond.code x code maxLocals ret, Jvm.Cond.code ({ cls := "com/example/clotwire/clotwire/link/Answer", name := "of", desc := "(Z)Lcom/example/clotwire/clotwire/link/Answer;" } : Jvm.MethodName) prog_53_method_1_code (1 : Nat) (Option.some (Jvm.ClassFile.FieldType.object "com/example/clotwire/clotwire/link/Answer")), Jvm.Cond.code ({ cls := "com/example/clotwire/clotwire/link/Answer$Known", name := "taken", desc := "()Z" } : Jvm.MethodName) prog_54_method_5_code (1 : Nat) (Option.some Jvm.ClassFile.FieldType.boolean), Jvm.Cond.code ({ cls := "com/example/clotwire/clotwire/link/Answer$Known", name := "ready", desc := "()Z" } : Jvm.MethodName) prog_54_method_4_code (1 : Nat) (Option.some Jvm.ClassFile.FieldType.boolean)]
set_option maxRecDepth 65536 in
theorem codes_eq : words1.filter isCode = codes1 := rfl
theorem w_codes : ∀ c ∈ words1.filter isCode, c.before args0 about1 = true := by
  rw [codes_eq]
  intro c hc
  simp only [codes1, List.mem_cons, List.not_mem_nil, or_false] at hc
  rcases hc with rfl | rfl | rfl | rfl
  · exact w_c0
  · exact w_c1
  · exact w_c2
  · exact w_c3
set_option maxRecDepth 65536 in
theorem w_t1 : (words1.take 24).all (fun c => isCode c || c.before args0 about1) = true := by decide +kernel
set_option maxRecDepth 65536 in
theorem w_t2 : (words1.drop 24).all (fun c => isCode c || c.before args0 about1) = true := by decide +kernel
theorem w_tables : (allAtoms (Jvm.Cond.code x code maxLocals ret :: tables_1)).before args0 about1 = true := by
  rw [allAtoms_all]
  show words1.all (fun c => c.before args0 about1) = true
  refine all_split ?_ w_codes
  rw [← List.take_append_drop 24 words1, List.all_append, w_t1, w_t2]
  rfl
set_option maxRecDepth 65536 in
theorem w_case : (Jvm.Cond.and given_1 narrow_1).before args0 about1 = true := by decide +kernel
theorem w_applies : (headSpec (Jvm.Cond.code x code maxLocals ret :: tables_1) room_1).applies x e0.platform about1 = true :=
  (Spec.applies_iff w_frames).mpr ⟨w_running, w_runnable, w_alone, w_named, w_hears, w_ripe, w_room, w_tables⟩
theorem atStart : AtStart classFile x code maxLocals ret World_1 tables_1 room_1 Calls_1 rest_1 Pre_1 launch0 p0 e0 about1 theMethod args0 below0 :=
  ⟨lists_1, trivial, launch0.admits_env _ _ _, launch0.least_env, fairChoices_fair.cas, fairChoices_fair.clock, w_frames, w_args, w_heap, w_applies, trivial, trivial, w_case⟩
end start1
theorem witness_1 : WitnessClaimed_1 := ⟨start1.p0, start1.e0, start1.about1, start1.theMethod, start1.args0, start1.below0, start1.atStart⟩
end Jvm.Pilot.@@N@@
