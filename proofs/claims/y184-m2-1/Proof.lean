import JvmDerived
import JvmDerived.Pilot.@@N@@Statement
import JvmDerived.Pilot.@@N@@Code
set_option linter.unusedVariables false
set_option linter.unusedSimpArgs false
@@BLOCK:NumsL.lean.txt@@
namespace Jvm.RoadKit
open Sem ClassFile Op Lib Jvm.Stand Jvm.Free Jvm.LawKit
section New
variable {p : Program} {l : Launch} {e : Env} {R : Room} {s : State} {m : MethodId} {args : Array Value} {below : List Frame} {meth : Method} {c : Code} {T : State} {locs : List Loc} {cells slots : Nat}
theorem retI (X : Stand p l e R s m args below meth c T locs cells slots) (hx : p.tables.exec = Jvm.exec) {pc : Nat} {Ls : Array Slot} {z : Int32} {rest : List Value} (hret : meth.sig.returnType = some .int) (hd : decode c.code pc = .ok (.ireturn, 1)) {fs : List Frame}
    (hl : ∀ (f : JFrame) (acts : List Action), f.method = m → f.locked = none → f.entered = [] → (doReturn e (T.setTop f) acts (some (.int z))).1 = T.setFrames fs) : Steps p.tables e below (T.setTop (mkF m pc Ls (.int z :: rest))) (T.setFrames fs) := by
  have hm' : T.vm.method? m = some meth := X.method'
  have hn : narrow .int (.int z) = .int z := rfl
  show Steps p.tables e below (T.setTop { method := m, pc := pc, locals := Ls, stack := _ :: rest, locked := none }) _
  jvm_step X.here [X.here.top, hx, hd, hm', hret, hn]
  first | (intro acts; rw [hl _ acts rfl rfl rfl]) | rw [hl _ _ rfl rfl rfl]
  exact Steps.refl _
/-- the run from U comes to an end of which Q speaks -/
def Gl (tb : Tables) (e : Env) (below : List Frame) (Q : State → Outcome → Prop) (U : State) : Prop := ∃ s₂ o, Steps tb e below U s₂ ∧ s₂.status = .running ∧ Ended s₂ below o ∧ Q s₂ o
theorem Gl.out {tb : Tables} {Q : State → Outcome → Prop} {U : State} (h : Gl tb e below Q U) : ∃ s₂ o, Steps tb e below U s₂ ∧ s₂.status = .running ∧ Ended s₂ below o ∧ Q s₂ o := h
theorem Gl.mk {tb : Tables} {Q : State → Outcome → Prop} {U : State} (h : ∃ s₂ o, Steps tb e below U s₂ ∧ s₂.status = .running ∧ Ended s₂ below o ∧ Q s₂ o) : Gl tb e below Q U := h
theorem Gl.go {tb : Tables} {Q : State → Outcome → Prop} {U V : State} (g : Gl tb e below Q V) (st : ∀ t, Steps tb e below V t → Steps tb e below U t) : Gl tb e below Q U := by
  obtain ⟨s₂, o, h1, h2⟩ := g
  exact ⟨s₂, o, st _ h1, h2⟩
theorem Gl.tr {tb : Tables} {Q : State → Outcome → Prop} {U V : State} (g : Gl tb e below Q V) (st : Steps tb e below U V) : Gl tb e below Q U := g.go fun _ k => st.trans k
/-- what a body leaves that writes and makes nothing: it returns w, the heap as it was -/
def PQ (w : Option Value) (h0 : Heap) (v : Option Value) (h : Heap) (L : List Loc) : Prop := v = w ∧ L = [] ∧ h = h0
end New
end Jvm.RoadKit
namespace Jvm.Pilot.@@N@@
open Jvm Jvm.ClassFile Sem Op Lib Jvm.Free Jvm.Stand Jvm.LawKit Jvm.RoadKit Bundle Jvm.Pilot.@@N@@.Jvm.D
theorem own_eqv {args : Array Value} {first s : State} {o : Option Outcome} {idx : List Nat} {a b : Term} {y : Value} (h : (Cond.eq a b).value args first o s idx = some true) (hb : b.eval args first o idx s = some y) (hy : y.isRef = true ∨ ∃ z, y = .int z) : a.eval args first o idx s = some y := by
  cases ha : a.eval args first o idx s with
  | none => simp [Cond.value, ha] at h
  | some x => rcases hy with hy | ⟨z, rfl⟩ <;> cases x <;> (try cases y) <;> simp_all [Cond.value, Value.isRef]
theorem own_ref {v : Value} (h : v.isRef = true) : v = .null ∨ ∃ a, v = .ref a := ref_cases h
theorem own_nr (a : Addr) : ¬ (Value.ref a) = .null := nofun
theorem iv_lt {x a : Int32} {k : Int} (hk : a.toInt = k) (h : x < a) : x.toInt < k := hk ▸ Int32.lt_iff_toInt_lt.mp h
theorem iv_nlt {x a : Int32} {k : Int} (hk : a.toInt = k) (h : ¬ x < a) : k ≤ x.toInt := by rw [Int32.lt_iff_toInt_lt, hk] at h; omega
theorem iv_gt {x a : Int32} {k : Int} (hk : a.toInt = k) (h : a < x) : k < x.toInt := hk ▸ Int32.lt_iff_toInt_lt.mp h
theorem iv_ngt {x a : Int32} {k : Int} (hk : a.toInt = k) (h : ¬ a < x) : x.toInt ≤ k := by rw [Int32.lt_iff_toInt_lt, hk] at h; omega
theorem iv_eq {x a : Int32} {k : Int} (hk : a.toInt = k) (h : x = a) : x.toInt = k := h ▸ hk
theorem iv_ne {x a : Int32} {k : Int} (hk : a.toInt = k) (h : ¬ x = a) : x.toInt ≠ k := fun q => h (Int32.toInt_inj.mp (q.trans hk.symm))
theorem iv_lt' {x a : Int32} {k : Int} (hk : a.toInt = k) (h : x.toInt < k) : x < a := Int32.lt_iff_toInt_lt.mpr (hk ▸ h)
theorem iv_nlt' {x a : Int32} {k : Int} (hk : a.toInt = k) (h : k ≤ x.toInt) : ¬ x < a := by rw [Int32.lt_iff_toInt_lt, hk]; omega
theorem iv_gt' {x a : Int32} {k : Int} (hk : a.toInt = k) (h : k < x.toInt) : a < x := Int32.lt_iff_toInt_lt.mpr (hk ▸ h)
theorem iv_ngt' {x a : Int32} {k : Int} (hk : a.toInt = k) (h : x.toInt ≤ k) : ¬ a < x := by rw [Int32.lt_iff_toInt_lt, hk]; omega
theorem iv_eq' {x a : Int32} {k : Int} (hk : a.toInt = k) (h : x.toInt = k) : x = a := Int32.toInt_inj.mp (h.trans hk.symm)
theorem iv_neq' {x a : Int32} {k : Int} (hk : a.toInt = k) (h : x.toInt ≠ k) : ¬ x = a := fun q => h (q ▸ hk)
theorem d1_0 : decode method_2_code 0 = .ok (.iload_n 0, 1) := by decide +kernel
theorem d1_1 : decode method_2_code 1 = .ok (.ifCond .ne 7, 3) := by decide +kernel
theorem d1_4 : decode method_2_code 4 = .ok (.getstatic 7, 3) := by decide +kernel
theorem d1_7 : decode method_2_code 7 = .ok (.areturn, 1) := by decide +kernel
theorem d1_8 : decode method_2_code 8 = .ok (.iload_n 0, 1) := by decide +kernel
theorem d1_9 : decode method_2_code 9 = .ok (.iconst 1, 1) := by decide +kernel
theorem d1_10 : decode method_2_code 10 = .ok (.if_icmp .ne 7, 3) := by decide +kernel
theorem d1_13 : decode method_2_code 13 = .ok (.getstatic 13, 3) := by decide +kernel
theorem d1_16 : decode method_2_code 16 = .ok (.areturn, 1) := by decide +kernel
theorem d1_17 : decode method_2_code 17 = .ok (.iload_n 0, 1) := by decide +kernel
theorem d1_18 : decode method_2_code 18 = .ok (.iconst 2, 1) := by decide +kernel
theorem d1_19 : decode method_2_code 19 = .ok (.if_icmp .ne 7, 3) := by decide +kernel
theorem d1_22 : decode method_2_code 22 = .ok (.getstatic 16, 3) := by decide +kernel
theorem d1_25 : decode method_2_code 25 = .ok (.areturn, 1) := by decide +kernel
theorem d1_26 : decode method_2_code 26 = .ok (.iload_n 0, 1) := by decide +kernel
theorem d1_27 : decode method_2_code 27 = .ok (.iconst 3, 1) := by decide +kernel
theorem d1_28 : decode method_2_code 28 = .ok (.if_icmp .ne 7, 3) := by decide +kernel
theorem d1_31 : decode method_2_code 31 = .ok (.getstatic 19, 3) := by decide +kernel
theorem d1_34 : decode method_2_code 34 = .ok (.areturn, 1) := by decide +kernel
theorem d1_35 : decode method_2_code 35 = .ok (.iload_n 0, 1) := by decide +kernel
theorem d1_36 : decode method_2_code 36 = .ok (.iconst 4, 1) := by decide +kernel
theorem d1_37 : decode method_2_code 37 = .ok (.if_icmp .ne 7, 3) := by decide +kernel
theorem d1_40 : decode method_2_code 40 = .ok (.getstatic 22, 3) := by decide +kernel
theorem d1_43 : decode method_2_code 43 = .ok (.areturn, 1) := by decide +kernel
theorem d1_44 : decode method_2_code 44 = .ok (.iload_n 0, 1) := by decide +kernel
theorem d1_45 : decode method_2_code 45 = .ok (.iconst 5, 1) := by decide +kernel
theorem d1_46 : decode method_2_code 46 = .ok (.if_icmp .ne 7, 3) := by decide +kernel
theorem d1_49 : decode method_2_code 49 = .ok (.getstatic 25, 3) := by decide +kernel
theorem d1_52 : decode method_2_code 52 = .ok (.areturn, 1) := by decide +kernel
theorem d1_53 : decode method_2_code 53 = .ok (.iload_n 0, 1) := by decide +kernel
theorem d1_54 : decode method_2_code 54 = .ok (.bipush 6, 2) := by decide +kernel
theorem d1_56 : decode method_2_code 56 = .ok (.if_icmp .ne 7, 3) := by decide +kernel
theorem d1_59 : decode method_2_code 59 = .ok (.getstatic 28, 3) := by decide +kernel
theorem d1_62 : decode method_2_code 62 = .ok (.areturn, 1) := by decide +kernel
theorem d1_63 : decode method_2_code 63 = .ok (.iload_n 0, 1) := by decide +kernel
theorem d1_64 : decode method_2_code 64 = .ok (.bipush 7, 2) := by decide +kernel
theorem d1_66 : decode method_2_code 66 = .ok (.if_icmp .ne 7, 3) := by decide +kernel
theorem d1_69 : decode method_2_code 69 = .ok (.getstatic 31, 3) := by decide +kernel
theorem d1_72 : decode method_2_code 72 = .ok (.areturn, 1) := by decide +kernel
theorem d1_73 : decode method_2_code 73 = .ok (.iload_n 0, 1) := by decide +kernel
theorem d1_74 : decode method_2_code 74 = .ok (.bipush 8, 2) := by decide +kernel
theorem d1_76 : decode method_2_code 76 = .ok (.if_icmp .ne 7, 3) := by decide +kernel
theorem d1_79 : decode method_2_code 79 = .ok (.getstatic 34, 3) := by decide +kernel
theorem d1_82 : decode method_2_code 82 = .ok (.areturn, 1) := by decide +kernel
theorem d1_83 : decode method_2_code 83 = .ok (.iload_n 0, 1) := by decide +kernel
theorem d1_84 : decode method_2_code 84 = .ok (.bipush 9, 2) := by decide +kernel
theorem d1_86 : decode method_2_code 86 = .ok (.if_icmp .ne 7, 3) := by decide +kernel
theorem d1_89 : decode method_2_code 89 = .ok (.getstatic 37, 3) := by decide +kernel
theorem d1_92 : decode method_2_code 92 = .ok (.areturn, 1) := by decide +kernel
theorem d1_93 : decode method_2_code 93 = .ok (.iload_n 0, 1) := by decide +kernel
theorem d1_94 : decode method_2_code 94 = .ok (.bipush 10, 2) := by decide +kernel
theorem d1_96 : decode method_2_code 96 = .ok (.if_icmp .ne 7, 3) := by decide +kernel
theorem d1_99 : decode method_2_code 99 = .ok (.getstatic 40, 3) := by decide +kernel
theorem d1_102 : decode method_2_code 102 = .ok (.areturn, 1) := by decide +kernel
theorem d1_103 : decode method_2_code 103 = .ok (.iload_n 0, 1) := by decide +kernel
theorem d1_104 : decode method_2_code 104 = .ok (.bipush 11, 2) := by decide +kernel
theorem d1_106 : decode method_2_code 106 = .ok (.if_icmp .ne 7, 3) := by decide +kernel
theorem d1_109 : decode method_2_code 109 = .ok (.getstatic 43, 3) := by decide +kernel
theorem d1_112 : decode method_2_code 112 = .ok (.areturn, 1) := by decide +kernel
theorem d1_113 : decode method_2_code 113 = .ok (.iload_n 0, 1) := by decide +kernel
theorem d1_114 : decode method_2_code 114 = .ok (.bipush 12, 2) := by decide +kernel
theorem d1_116 : decode method_2_code 116 = .ok (.if_icmp .ne 7, 3) := by decide +kernel
theorem d1_119 : decode method_2_code 119 = .ok (.getstatic 46, 3) := by decide +kernel
theorem d1_122 : decode method_2_code 122 = .ok (.areturn, 1) := by decide +kernel
theorem d1_123 : decode method_2_code 123 = .ok (.iload_n 0, 1) := by decide +kernel
theorem d1_124 : decode method_2_code 124 = .ok (.bipush 13, 2) := by decide +kernel
theorem d1_126 : decode method_2_code 126 = .ok (.if_icmp .ne 7, 3) := by decide +kernel
theorem d1_129 : decode method_2_code 129 = .ok (.getstatic 49, 3) := by decide +kernel
theorem d1_132 : decode method_2_code 132 = .ok (.areturn, 1) := by decide +kernel
theorem d1_133 : decode method_2_code 133 = .ok (.iload_n 0, 1) := by decide +kernel
theorem d1_134 : decode method_2_code 134 = .ok (.bipush 14, 2) := by decide +kernel
theorem d1_136 : decode method_2_code 136 = .ok (.if_icmp .ne 7, 3) := by decide +kernel
theorem d1_139 : decode method_2_code 139 = .ok (.getstatic 52, 3) := by decide +kernel
theorem d1_142 : decode method_2_code 142 = .ok (.areturn, 1) := by decide +kernel
theorem d1_143 : decode method_2_code 143 = .ok (.iload_n 0, 1) := by decide +kernel
theorem d1_144 : decode method_2_code 144 = .ok (.bipush 15, 2) := by decide +kernel
theorem d1_146 : decode method_2_code 146 = .ok (.if_icmp .ne 7, 3) := by decide +kernel
theorem d1_149 : decode method_2_code 149 = .ok (.getstatic 55, 3) := by decide +kernel
theorem d1_152 : decode method_2_code 152 = .ok (.areturn, 1) := by decide +kernel
theorem d1_153 : decode method_2_code 153 = .ok (.getstatic 58, 3) := by decide +kernel
theorem d1_156 : decode method_2_code 156 = .ok (.areturn, 1) := by decide +kernel
theorem pn_1 : plainName "com/example/litera/litera/PrimitiveTypeIsIntegerPinLaw" = true := by first | (simp [plainName, overriddenIn]; done) | decide +kernel
def f_pick (u : Int32) (A : Nat → Addr) : Addr := (if u = (0 : Int32) then (A 0) else (if u = (1 : Int32) then (A 1) else (if u = (2 : Int32) then (A 2) else (if u = (3 : Int32) then (A 3) else (if u = (4 : Int32) then (A 4) else (if u = (5 : Int32) then (A 5) else (if u = (6 : Int32) then (A 6) else (if u = (7 : Int32) then (A 7) else (if u = (8 : Int32) then (A 8) else (if u = (9 : Int32) then (A 9) else (if u = (10 : Int32) then (A 10) else (if u = (11 : Int32) then (A 11) else (if u = (12 : Int32) then (A 12) else (if u = (13 : Int32) then (A 13) else (if u = (14 : Int32) then (A 14) else (if u = (15 : Int32) then (A 15) else (A 16)))))))))))))))))
theorem ef_rm1 (m : MethodId) (x0 : Int32) : entryFrame m #[(.int x0)] 1 = mkF m 0 #[.val (.int x0)] [] := by first | (simp [entryFrame, mkF, argsToLocals, Value.category]; done) | rfl
set_option maxRecDepth 65536 in
set_option maxHeartbeats 40000000 in
theorem rm1 (l : Launch) (Z : State) (a0 : Array Value) (hw : ∀ d ∈ tables_1, d.before a0 Z = true) (ws : List Jvm.Cond) (u : Int32) (A : Nat → Addr) (h0 : Heap) (S_0 : Sta Z h0 "com/example/litera/litera/PrimitiveType" "BOOL" "Lcom/example/litera/litera/PrimitiveType;" (.ref (A 0))) (S_1 : Sta Z h0 "com/example/litera/litera/PrimitiveType" "S8" "Lcom/example/litera/litera/PrimitiveType;" (.ref (A 1))) (S_2 : Sta Z h0 "com/example/litera/litera/PrimitiveType" "S16" "Lcom/example/litera/litera/PrimitiveType;" (.ref (A 2))) (S_3 : Sta Z h0 "com/example/litera/litera/PrimitiveType" "S32" "Lcom/example/litera/litera/PrimitiveType;" (.ref (A 3))) (S_4 : Sta Z h0 "com/example/litera/litera/PrimitiveType" "S64" "Lcom/example/litera/litera/PrimitiveType;" (.ref (A 4))) (S_5 : Sta Z h0 "com/example/litera/litera/PrimitiveType" "S128" "Lcom/example/litera/litera/PrimitiveType;" (.ref (A 5))) (S_6 : Sta Z h0 "com/example/litera/litera/PrimitiveType" "U8" "Lcom/example/litera/litera/PrimitiveType;" (.ref (A 6))) (S_7 : Sta Z h0 "com/example/litera/litera/PrimitiveType" "U16" "Lcom/example/litera/litera/PrimitiveType;" (.ref (A 7))) (S_8 : Sta Z h0 "com/example/litera/litera/PrimitiveType" "U32" "Lcom/example/litera/litera/PrimitiveType;" (.ref (A 8))) (S_9 : Sta Z h0 "com/example/litera/litera/PrimitiveType" "U64" "Lcom/example/litera/litera/PrimitiveType;" (.ref (A 9))) (S_10 : Sta Z h0 "com/example/litera/litera/PrimitiveType" "U128" "Lcom/example/litera/litera/PrimitiveType;" (.ref (A 10))) (S_11 : Sta Z h0 "com/example/litera/litera/PrimitiveType" "FLOAT32" "Lcom/example/litera/litera/PrimitiveType;" (.ref (A 11))) (S_12 : Sta Z h0 "com/example/litera/litera/PrimitiveType" "FLOAT64" "Lcom/example/litera/litera/PrimitiveType;" (.ref (A 12))) (S_13 : Sta Z h0 "com/example/litera/litera/PrimitiveType" "CHAR" "Lcom/example/litera/litera/PrimitiveType;" (.ref (A 13))) (S_14 : Sta Z h0 "com/example/litera/litera/PrimitiveType" "STRING" "Lcom/example/litera/litera/PrimitiveType;" (.ref (A 14))) (S_15 : Sta Z h0 "com/example/litera/litera/PrimitiveType" "BYTES" "Lcom/example/litera/litera/PrimitiveType;" (.ref (A 15))) (S_16 : Sta Z h0 "com/example/litera/litera/PrimitiveType" "TIMESTAMP" "Lcom/example/litera/litera/PrimitiveType;" (.ref (A 16))) :
    MetFree l (⟨"com/example/litera/litera/PrimitiveTypeIsIntegerPinLaw", "pick", "(I)Lcom/example/litera/litera/PrimitiveType;"⟩ : MethodName) (head1 (Jvm.Cond.code (⟨"com/example/litera/litera/PrimitiveTypeIsIntegerPinLaw", "pick", "(I)Lcom/example/litera/litera/PrimitiveType;"⟩ : MethodName) method_2_code 1 (some (.object "com/example/litera/litera/PrimitiveType")) :: ws) ({ frames := 0, cells := 0, slots := 0, locals := 0 } : Room)) (fun aQ U => aQ = #[(.int u)] ∧ Z.Warmed39 U.vm ∧ U.heap = h0) (fun _ _ _ _ _ => True) (fun _ U o U' => ∃ vQ LQ, o = .returned vQ ∧ PQ (some (.ref (f_pick u A))) h0 vQ U'.heap LQ ∧ FrameEnd U o U' LQ ({ frames := 0, cells := 0, slots := 0, locals := 0 } : Room).cells ({ frames := 0, cells := 0, slots := 0, locals := 0 } : Room).slots) := by
  refine MetFree.of_bodySF (plainFor_of_name pn_1) hisR ?_
  intro p e s m args below meth c s₁ Bd hml0 hP hK
  obtain ⟨rfl, hZ, hh⟩ := hP
  have hx := Bd.exec
  have hby := Bd.bytes
  have hml : c.maxLocals = 1 := hml0
  have hown : s.vm.findClass "com/example/litera/litera/PrimitiveTypeIsIntegerPinLaw" = some m.cls := findClass_of_methodNamed Bd.named
  have hnm := (name_of_methodNamed Bd.named Bd.method).1
  have X0 : Stand p l e ({ frames := 0, cells := 0, slots := 0, locals := 0 } : Room) s m #[(.int u)] below meth c s₁ [] 0 0 := Stand.of_body Bd
  have e0 : s₁.heap = h0 := by rw [← hh, Bd.state]; rfl
  refine Gl.out ?_
  refine Gl.go ?_ (fun t k => castTop (ef_rm1 m u) k)
  show Gl _ _ _ _ (s₁.setTop (mkF m 0 #[.val (.int u)] []))
  refine Gl.go ?_ (fun t k => XS.iloadN X0.here hx rfl (hb hby d1_0) rfl k)
  show Gl _ _ _ _ (s₁.setTop (mkF m 1 #[.val (.int u)] [(.int u)]))
  by_cases hc1 : u = (0 : Int32)
  · refine Gl.go ?_ (fun t k => XS.ifNo X0.here hx rfl (hb hby d1_1) rfl ((if0 _ _).trans (teq hc1).2) k)
    show Gl _ _ _ _ (s₁.setTop (mkF m 4 #[.val (.int u)] []))
    obtain ⟨T2, X2, e2, st2⟩ := getS2 X0 hx hZ hown (host := "") (Or.inl (hw _ (List.mem_of_getElem? (i := 5) rfl))) Via.refl e0 S_0 (g := (mkF m 4 #[.val (.int u)] [])) rfl (hb hby d1_4)
    refine Gl.go ?_ st2
    show Gl _ _ _ _ (T2.setTop (mkF m 7 #[.val (.int u)] [(.ref (A 0))]))
    obtain ⟨fs, hr, hrun, hended, hW, hsame⟩ := X2.leave (v := some (.ref (A 0))) (fun h => by rw [Bd.returns] at h; cases h)
    exact Gl.mk ⟨_, _, retOut X2 hx Bd.returns rfl (Or.inr (Or.inr (Or.inr (Or.inr ⟨rfl, rfl, rfl⟩)))) (hb hby d1_7) hr, hrun, hended, _, _, rfl, ⟨congrArg (fun z => some (Value.ref z)) ((if_pos hc1).trans (rfl)).symm, rfl, e2⟩, ⟨_, rfl⟩, hW, hsame.mono (by decide) (by decide)⟩
  · refine Gl.go ?_ (fun t k => XS.ifYes X0.here hx rfl (pc0 := 1) (pc' := 8) rfl (hb hby d1_1) rfl ((if0 _ _).trans (feq hc1).2) (by decide) (by decide) k)
    show Gl _ _ _ _ (s₁.setTop (mkF m 8 #[.val (.int u)] []))
    refine Gl.go ?_ (fun t k => XS.iloadN X0.here hx rfl (hb hby d1_8) rfl k)
    show Gl _ _ _ _ (s₁.setTop (mkF m 9 #[.val (.int u)] [(.int u)]))
    refine Gl.go ?_ (fun t k => XS.iconst X0.here hx rfl (hb hby d1_9) k)
    show Gl _ _ _ _ (s₁.setTop (mkF m 10 #[.val (.int u)] [(.int (1 : Int32)), (.int u)]))
    by_cases hc3 : u = (1 : Int32)
    · refine Gl.go ?_ (fun t k => XS.icmpNo X0.here hx rfl (hb hby d1_10) rfl (teq hc3).2 k)
      show Gl _ _ _ _ (s₁.setTop (mkF m 13 #[.val (.int u)] []))
      obtain ⟨T4, X4, e4, st4⟩ := getS2 X0 hx hZ hown (host := "") (Or.inl (hw _ (List.mem_of_getElem? (i := 31) rfl))) Via.refl e0 S_1 (g := (mkF m 13 #[.val (.int u)] [])) rfl (hb hby d1_13)
      refine Gl.go ?_ st4
      show Gl _ _ _ _ (T4.setTop (mkF m 16 #[.val (.int u)] [(.ref (A 1))]))
      obtain ⟨fs, hr, hrun, hended, hW, hsame⟩ := X4.leave (v := some (.ref (A 1))) (fun h => by rw [Bd.returns] at h; cases h)
      exact Gl.mk ⟨_, _, retOut X4 hx Bd.returns rfl (Or.inr (Or.inr (Or.inr (Or.inr ⟨rfl, rfl, rfl⟩)))) (hb hby d1_16) hr, hrun, hended, _, _, rfl, ⟨congrArg (fun z => some (Value.ref z)) ((if_neg hc1).trans ((if_pos hc3).trans (rfl))).symm, rfl, e4⟩, ⟨_, rfl⟩, hW, hsame.mono (by decide) (by decide)⟩
    · refine Gl.go ?_ (fun t k => XS.icmpYes X0.here hx rfl (pc0 := 10) (pc' := 17) rfl (hb hby d1_10) rfl (feq hc3).2 (by decide) (by decide) k)
      show Gl _ _ _ _ (s₁.setTop (mkF m 17 #[.val (.int u)] []))
      refine Gl.go ?_ (fun t k => XS.iloadN X0.here hx rfl (hb hby d1_17) rfl k)
      show Gl _ _ _ _ (s₁.setTop (mkF m 18 #[.val (.int u)] [(.int u)]))
      refine Gl.go ?_ (fun t k => XS.iconst X0.here hx rfl (hb hby d1_18) k)
      show Gl _ _ _ _ (s₁.setTop (mkF m 19 #[.val (.int u)] [(.int (2 : Int32)), (.int u)]))
      by_cases hc5 : u = (2 : Int32)
      · refine Gl.go ?_ (fun t k => XS.icmpNo X0.here hx rfl (hb hby d1_19) rfl (teq hc5).2 k)
        show Gl _ _ _ _ (s₁.setTop (mkF m 22 #[.val (.int u)] []))
        obtain ⟨T6, X6, e6, st6⟩ := getS2 X0 hx hZ hown (host := "") (Or.inl (hw _ (List.mem_of_getElem? (i := 27) rfl))) Via.refl e0 S_2 (g := (mkF m 22 #[.val (.int u)] [])) rfl (hb hby d1_22)
        refine Gl.go ?_ st6
        show Gl _ _ _ _ (T6.setTop (mkF m 25 #[.val (.int u)] [(.ref (A 2))]))
        obtain ⟨fs, hr, hrun, hended, hW, hsame⟩ := X6.leave (v := some (.ref (A 2))) (fun h => by rw [Bd.returns] at h; cases h)
        exact Gl.mk ⟨_, _, retOut X6 hx Bd.returns rfl (Or.inr (Or.inr (Or.inr (Or.inr ⟨rfl, rfl, rfl⟩)))) (hb hby d1_25) hr, hrun, hended, _, _, rfl, ⟨congrArg (fun z => some (Value.ref z)) ((if_neg hc1).trans ((if_neg hc3).trans ((if_pos hc5).trans (rfl)))).symm, rfl, e6⟩, ⟨_, rfl⟩, hW, hsame.mono (by decide) (by decide)⟩
      · refine Gl.go ?_ (fun t k => XS.icmpYes X0.here hx rfl (pc0 := 19) (pc' := 26) rfl (hb hby d1_19) rfl (feq hc5).2 (by decide) (by decide) k)
        show Gl _ _ _ _ (s₁.setTop (mkF m 26 #[.val (.int u)] []))
        refine Gl.go ?_ (fun t k => XS.iloadN X0.here hx rfl (hb hby d1_26) rfl k)
        show Gl _ _ _ _ (s₁.setTop (mkF m 27 #[.val (.int u)] [(.int u)]))
        refine Gl.go ?_ (fun t k => XS.iconst X0.here hx rfl (hb hby d1_27) k)
        show Gl _ _ _ _ (s₁.setTop (mkF m 28 #[.val (.int u)] [(.int (3 : Int32)), (.int u)]))
        by_cases hc7 : u = (3 : Int32)
        · refine Gl.go ?_ (fun t k => XS.icmpNo X0.here hx rfl (hb hby d1_28) rfl (teq hc7).2 k)
          show Gl _ _ _ _ (s₁.setTop (mkF m 31 #[.val (.int u)] []))
          obtain ⟨T8, X8, e8, st8⟩ := getS2 X0 hx hZ hown (host := "") (Or.inl (hw _ (List.mem_of_getElem? (i := 15) rfl))) Via.refl e0 S_3 (g := (mkF m 31 #[.val (.int u)] [])) rfl (hb hby d1_31)
          refine Gl.go ?_ st8
          show Gl _ _ _ _ (T8.setTop (mkF m 34 #[.val (.int u)] [(.ref (A 3))]))
          obtain ⟨fs, hr, hrun, hended, hW, hsame⟩ := X8.leave (v := some (.ref (A 3))) (fun h => by rw [Bd.returns] at h; cases h)
          exact Gl.mk ⟨_, _, retOut X8 hx Bd.returns rfl (Or.inr (Or.inr (Or.inr (Or.inr ⟨rfl, rfl, rfl⟩)))) (hb hby d1_34) hr, hrun, hended, _, _, rfl, ⟨congrArg (fun z => some (Value.ref z)) ((if_neg hc1).trans ((if_neg hc3).trans ((if_neg hc5).trans ((if_pos hc7).trans (rfl))))).symm, rfl, e8⟩, ⟨_, rfl⟩, hW, hsame.mono (by decide) (by decide)⟩
        · refine Gl.go ?_ (fun t k => XS.icmpYes X0.here hx rfl (pc0 := 28) (pc' := 35) rfl (hb hby d1_28) rfl (feq hc7).2 (by decide) (by decide) k)
          show Gl _ _ _ _ (s₁.setTop (mkF m 35 #[.val (.int u)] []))
          refine Gl.go ?_ (fun t k => XS.iloadN X0.here hx rfl (hb hby d1_35) rfl k)
          show Gl _ _ _ _ (s₁.setTop (mkF m 36 #[.val (.int u)] [(.int u)]))
          refine Gl.go ?_ (fun t k => XS.iconst X0.here hx rfl (hb hby d1_36) k)
          show Gl _ _ _ _ (s₁.setTop (mkF m 37 #[.val (.int u)] [(.int (4 : Int32)), (.int u)]))
          by_cases hc9 : u = (4 : Int32)
          · refine Gl.go ?_ (fun t k => XS.icmpNo X0.here hx rfl (hb hby d1_37) rfl (teq hc9).2 k)
            show Gl _ _ _ _ (s₁.setTop (mkF m 40 #[.val (.int u)] []))
            obtain ⟨T10, X10, e10, st10⟩ := getS2 X0 hx hZ hown (host := "") (Or.inl (hw _ (List.mem_of_getElem? (i := 35) rfl))) Via.refl e0 S_4 (g := (mkF m 40 #[.val (.int u)] [])) rfl (hb hby d1_40)
            refine Gl.go ?_ st10
            show Gl _ _ _ _ (T10.setTop (mkF m 43 #[.val (.int u)] [(.ref (A 4))]))
            obtain ⟨fs, hr, hrun, hended, hW, hsame⟩ := X10.leave (v := some (.ref (A 4))) (fun h => by rw [Bd.returns] at h; cases h)
            exact Gl.mk ⟨_, _, retOut X10 hx Bd.returns rfl (Or.inr (Or.inr (Or.inr (Or.inr ⟨rfl, rfl, rfl⟩)))) (hb hby d1_43) hr, hrun, hended, _, _, rfl, ⟨congrArg (fun z => some (Value.ref z)) ((if_neg hc1).trans ((if_neg hc3).trans ((if_neg hc5).trans ((if_neg hc7).trans ((if_pos hc9).trans (rfl)))))).symm, rfl, e10⟩, ⟨_, rfl⟩, hW, hsame.mono (by decide) (by decide)⟩
          · refine Gl.go ?_ (fun t k => XS.icmpYes X0.here hx rfl (pc0 := 37) (pc' := 44) rfl (hb hby d1_37) rfl (feq hc9).2 (by decide) (by decide) k)
            show Gl _ _ _ _ (s₁.setTop (mkF m 44 #[.val (.int u)] []))
            refine Gl.go ?_ (fun t k => XS.iloadN X0.here hx rfl (hb hby d1_44) rfl k)
            show Gl _ _ _ _ (s₁.setTop (mkF m 45 #[.val (.int u)] [(.int u)]))
            refine Gl.go ?_ (fun t k => XS.iconst X0.here hx rfl (hb hby d1_45) k)
            show Gl _ _ _ _ (s₁.setTop (mkF m 46 #[.val (.int u)] [(.int (5 : Int32)), (.int u)]))
            by_cases hc11 : u = (5 : Int32)
            · refine Gl.go ?_ (fun t k => XS.icmpNo X0.here hx rfl (hb hby d1_46) rfl (teq hc11).2 k)
              show Gl _ _ _ _ (s₁.setTop (mkF m 49 #[.val (.int u)] []))
              obtain ⟨T12, X12, e12, st12⟩ := getS2 X0 hx hZ hown (host := "") (Or.inl (hw _ (List.mem_of_getElem? (i := 42) rfl))) Via.refl e0 S_5 (g := (mkF m 49 #[.val (.int u)] [])) rfl (hb hby d1_49)
              refine Gl.go ?_ st12
              show Gl _ _ _ _ (T12.setTop (mkF m 52 #[.val (.int u)] [(.ref (A 5))]))
              obtain ⟨fs, hr, hrun, hended, hW, hsame⟩ := X12.leave (v := some (.ref (A 5))) (fun h => by rw [Bd.returns] at h; cases h)
              exact Gl.mk ⟨_, _, retOut X12 hx Bd.returns rfl (Or.inr (Or.inr (Or.inr (Or.inr ⟨rfl, rfl, rfl⟩)))) (hb hby d1_52) hr, hrun, hended, _, _, rfl, ⟨congrArg (fun z => some (Value.ref z)) ((if_neg hc1).trans ((if_neg hc3).trans ((if_neg hc5).trans ((if_neg hc7).trans ((if_neg hc9).trans ((if_pos hc11).trans (rfl))))))).symm, rfl, e12⟩, ⟨_, rfl⟩, hW, hsame.mono (by decide) (by decide)⟩
            · refine Gl.go ?_ (fun t k => XS.icmpYes X0.here hx rfl (pc0 := 46) (pc' := 53) rfl (hb hby d1_46) rfl (feq hc11).2 (by decide) (by decide) k)
              show Gl _ _ _ _ (s₁.setTop (mkF m 53 #[.val (.int u)] []))
              refine Gl.go ?_ (fun t k => XS.iloadN X0.here hx rfl (hb hby d1_53) rfl k)
              show Gl _ _ _ _ (s₁.setTop (mkF m 54 #[.val (.int u)] [(.int u)]))
              refine Gl.go ?_ (fun t k => XS.bipush X0.here hx rfl (hb hby d1_54) k)
              show Gl _ _ _ _ (s₁.setTop (mkF m 56 #[.val (.int u)] [(.int (6 : Int32)), (.int u)]))
              by_cases hc13 : u = (6 : Int32)
              · refine Gl.go ?_ (fun t k => XS.icmpNo X0.here hx rfl (hb hby d1_56) rfl (teq hc13).2 k)
                show Gl _ _ _ _ (s₁.setTop (mkF m 59 #[.val (.int u)] []))
                obtain ⟨T14, X14, e14, st14⟩ := getS2 X0 hx hZ hown (host := "") (Or.inl (hw _ (List.mem_of_getElem? (i := 23) rfl))) Via.refl e0 S_6 (g := (mkF m 59 #[.val (.int u)] [])) rfl (hb hby d1_59)
                refine Gl.go ?_ st14
                show Gl _ _ _ _ (T14.setTop (mkF m 62 #[.val (.int u)] [(.ref (A 6))]))
                obtain ⟨fs, hr, hrun, hended, hW, hsame⟩ := X14.leave (v := some (.ref (A 6))) (fun h => by rw [Bd.returns] at h; cases h)
                exact Gl.mk ⟨_, _, retOut X14 hx Bd.returns rfl (Or.inr (Or.inr (Or.inr (Or.inr ⟨rfl, rfl, rfl⟩)))) (hb hby d1_62) hr, hrun, hended, _, _, rfl, ⟨congrArg (fun z => some (Value.ref z)) ((if_neg hc1).trans ((if_neg hc3).trans ((if_neg hc5).trans ((if_neg hc7).trans ((if_neg hc9).trans ((if_neg hc11).trans ((if_pos hc13).trans (rfl)))))))).symm, rfl, e14⟩, ⟨_, rfl⟩, hW, hsame.mono (by decide) (by decide)⟩
              · refine Gl.go ?_ (fun t k => XS.icmpYes X0.here hx rfl (pc0 := 56) (pc' := 63) rfl (hb hby d1_56) rfl (feq hc13).2 (by decide) (by decide) k)
                show Gl _ _ _ _ (s₁.setTop (mkF m 63 #[.val (.int u)] []))
                refine Gl.go ?_ (fun t k => XS.iloadN X0.here hx rfl (hb hby d1_63) rfl k)
                show Gl _ _ _ _ (s₁.setTop (mkF m 64 #[.val (.int u)] [(.int u)]))
                refine Gl.go ?_ (fun t k => XS.bipush X0.here hx rfl (hb hby d1_64) k)
                show Gl _ _ _ _ (s₁.setTop (mkF m 66 #[.val (.int u)] [(.int (7 : Int32)), (.int u)]))
                by_cases hc15 : u = (7 : Int32)
                · refine Gl.go ?_ (fun t k => XS.icmpNo X0.here hx rfl (hb hby d1_66) rfl (teq hc15).2 k)
                  show Gl _ _ _ _ (s₁.setTop (mkF m 69 #[.val (.int u)] []))
                  obtain ⟨T16, X16, e16, st16⟩ := getS2 X0 hx hZ hown (host := "") (Or.inl (hw _ (List.mem_of_getElem? (i := 25) rfl))) Via.refl e0 S_7 (g := (mkF m 69 #[.val (.int u)] [])) rfl (hb hby d1_69)
                  refine Gl.go ?_ st16
                  show Gl _ _ _ _ (T16.setTop (mkF m 72 #[.val (.int u)] [(.ref (A 7))]))
                  obtain ⟨fs, hr, hrun, hended, hW, hsame⟩ := X16.leave (v := some (.ref (A 7))) (fun h => by rw [Bd.returns] at h; cases h)
                  exact Gl.mk ⟨_, _, retOut X16 hx Bd.returns rfl (Or.inr (Or.inr (Or.inr (Or.inr ⟨rfl, rfl, rfl⟩)))) (hb hby d1_72) hr, hrun, hended, _, _, rfl, ⟨congrArg (fun z => some (Value.ref z)) ((if_neg hc1).trans ((if_neg hc3).trans ((if_neg hc5).trans ((if_neg hc7).trans ((if_neg hc9).trans ((if_neg hc11).trans ((if_neg hc13).trans ((if_pos hc15).trans (rfl))))))))).symm, rfl, e16⟩, ⟨_, rfl⟩, hW, hsame.mono (by decide) (by decide)⟩
                · refine Gl.go ?_ (fun t k => XS.icmpYes X0.here hx rfl (pc0 := 66) (pc' := 73) rfl (hb hby d1_66) rfl (feq hc15).2 (by decide) (by decide) k)
                  show Gl _ _ _ _ (s₁.setTop (mkF m 73 #[.val (.int u)] []))
                  refine Gl.go ?_ (fun t k => XS.iloadN X0.here hx rfl (hb hby d1_73) rfl k)
                  show Gl _ _ _ _ (s₁.setTop (mkF m 74 #[.val (.int u)] [(.int u)]))
                  refine Gl.go ?_ (fun t k => XS.bipush X0.here hx rfl (hb hby d1_74) k)
                  show Gl _ _ _ _ (s₁.setTop (mkF m 76 #[.val (.int u)] [(.int (8 : Int32)), (.int u)]))
                  by_cases hc17 : u = (8 : Int32)
                  · refine Gl.go ?_ (fun t k => XS.icmpNo X0.here hx rfl (hb hby d1_76) rfl (teq hc17).2 k)
                    show Gl _ _ _ _ (s₁.setTop (mkF m 79 #[.val (.int u)] []))
                    obtain ⟨T18, X18, e18, st18⟩ := getS2 X0 hx hZ hown (host := "") (Or.inl (hw _ (List.mem_of_getElem? (i := 19) rfl))) Via.refl e0 S_8 (g := (mkF m 79 #[.val (.int u)] [])) rfl (hb hby d1_79)
                    refine Gl.go ?_ st18
                    show Gl _ _ _ _ (T18.setTop (mkF m 82 #[.val (.int u)] [(.ref (A 8))]))
                    obtain ⟨fs, hr, hrun, hended, hW, hsame⟩ := X18.leave (v := some (.ref (A 8))) (fun h => by rw [Bd.returns] at h; cases h)
                    exact Gl.mk ⟨_, _, retOut X18 hx Bd.returns rfl (Or.inr (Or.inr (Or.inr (Or.inr ⟨rfl, rfl, rfl⟩)))) (hb hby d1_82) hr, hrun, hended, _, _, rfl, ⟨congrArg (fun z => some (Value.ref z)) ((if_neg hc1).trans ((if_neg hc3).trans ((if_neg hc5).trans ((if_neg hc7).trans ((if_neg hc9).trans ((if_neg hc11).trans ((if_neg hc13).trans ((if_neg hc15).trans ((if_pos hc17).trans (rfl)))))))))).symm, rfl, e18⟩, ⟨_, rfl⟩, hW, hsame.mono (by decide) (by decide)⟩
                  · refine Gl.go ?_ (fun t k => XS.icmpYes X0.here hx rfl (pc0 := 76) (pc' := 83) rfl (hb hby d1_76) rfl (feq hc17).2 (by decide) (by decide) k)
                    show Gl _ _ _ _ (s₁.setTop (mkF m 83 #[.val (.int u)] []))
                    refine Gl.go ?_ (fun t k => XS.iloadN X0.here hx rfl (hb hby d1_83) rfl k)
                    show Gl _ _ _ _ (s₁.setTop (mkF m 84 #[.val (.int u)] [(.int u)]))
                    refine Gl.go ?_ (fun t k => XS.bipush X0.here hx rfl (hb hby d1_84) k)
                    show Gl _ _ _ _ (s₁.setTop (mkF m 86 #[.val (.int u)] [(.int (9 : Int32)), (.int u)]))
                    by_cases hc19 : u = (9 : Int32)
                    · refine Gl.go ?_ (fun t k => XS.icmpNo X0.here hx rfl (hb hby d1_86) rfl (teq hc19).2 k)
                      show Gl _ _ _ _ (s₁.setTop (mkF m 89 #[.val (.int u)] []))
                      obtain ⟨T20, X20, e20, st20⟩ := getS2 X0 hx hZ hown (host := "") (Or.inl (hw _ (List.mem_of_getElem? (i := 21) rfl))) Via.refl e0 S_9 (g := (mkF m 89 #[.val (.int u)] [])) rfl (hb hby d1_89)
                      refine Gl.go ?_ st20
                      show Gl _ _ _ _ (T20.setTop (mkF m 92 #[.val (.int u)] [(.ref (A 9))]))
                      obtain ⟨fs, hr, hrun, hended, hW, hsame⟩ := X20.leave (v := some (.ref (A 9))) (fun h => by rw [Bd.returns] at h; cases h)
                      exact Gl.mk ⟨_, _, retOut X20 hx Bd.returns rfl (Or.inr (Or.inr (Or.inr (Or.inr ⟨rfl, rfl, rfl⟩)))) (hb hby d1_92) hr, hrun, hended, _, _, rfl, ⟨congrArg (fun z => some (Value.ref z)) ((if_neg hc1).trans ((if_neg hc3).trans ((if_neg hc5).trans ((if_neg hc7).trans ((if_neg hc9).trans ((if_neg hc11).trans ((if_neg hc13).trans ((if_neg hc15).trans ((if_neg hc17).trans ((if_pos hc19).trans (rfl))))))))))).symm, rfl, e20⟩, ⟨_, rfl⟩, hW, hsame.mono (by decide) (by decide)⟩
                    · refine Gl.go ?_ (fun t k => XS.icmpYes X0.here hx rfl (pc0 := 86) (pc' := 93) rfl (hb hby d1_86) rfl (feq hc19).2 (by decide) (by decide) k)
                      show Gl _ _ _ _ (s₁.setTop (mkF m 93 #[.val (.int u)] []))
                      refine Gl.go ?_ (fun t k => XS.iloadN X0.here hx rfl (hb hby d1_93) rfl k)
                      show Gl _ _ _ _ (s₁.setTop (mkF m 94 #[.val (.int u)] [(.int u)]))
                      refine Gl.go ?_ (fun t k => XS.bipush X0.here hx rfl (hb hby d1_94) k)
                      show Gl _ _ _ _ (s₁.setTop (mkF m 96 #[.val (.int u)] [(.int (10 : Int32)), (.int u)]))
                      by_cases hc21 : u = (10 : Int32)
                      · refine Gl.go ?_ (fun t k => XS.icmpNo X0.here hx rfl (hb hby d1_96) rfl (teq hc21).2 k)
                        show Gl _ _ _ _ (s₁.setTop (mkF m 99 #[.val (.int u)] []))
                        obtain ⟨T22, X22, e22, st22⟩ := getS2 X0 hx hZ hown (host := "") (Or.inl (hw _ (List.mem_of_getElem? (i := 37) rfl))) Via.refl e0 S_10 (g := (mkF m 99 #[.val (.int u)] [])) rfl (hb hby d1_99)
                        refine Gl.go ?_ st22
                        show Gl _ _ _ _ (T22.setTop (mkF m 102 #[.val (.int u)] [(.ref (A 10))]))
                        obtain ⟨fs, hr, hrun, hended, hW, hsame⟩ := X22.leave (v := some (.ref (A 10))) (fun h => by rw [Bd.returns] at h; cases h)
                        exact Gl.mk ⟨_, _, retOut X22 hx Bd.returns rfl (Or.inr (Or.inr (Or.inr (Or.inr ⟨rfl, rfl, rfl⟩)))) (hb hby d1_102) hr, hrun, hended, _, _, rfl, ⟨congrArg (fun z => some (Value.ref z)) ((if_neg hc1).trans ((if_neg hc3).trans ((if_neg hc5).trans ((if_neg hc7).trans ((if_neg hc9).trans ((if_neg hc11).trans ((if_neg hc13).trans ((if_neg hc15).trans ((if_neg hc17).trans ((if_neg hc19).trans ((if_pos hc21).trans (rfl)))))))))))).symm, rfl, e22⟩, ⟨_, rfl⟩, hW, hsame.mono (by decide) (by decide)⟩
                      · refine Gl.go ?_ (fun t k => XS.icmpYes X0.here hx rfl (pc0 := 96) (pc' := 103) rfl (hb hby d1_96) rfl (feq hc21).2 (by decide) (by decide) k)
                        show Gl _ _ _ _ (s₁.setTop (mkF m 103 #[.val (.int u)] []))
                        refine Gl.go ?_ (fun t k => XS.iloadN X0.here hx rfl (hb hby d1_103) rfl k)
                        show Gl _ _ _ _ (s₁.setTop (mkF m 104 #[.val (.int u)] [(.int u)]))
                        refine Gl.go ?_ (fun t k => XS.bipush X0.here hx rfl (hb hby d1_104) k)
                        show Gl _ _ _ _ (s₁.setTop (mkF m 106 #[.val (.int u)] [(.int (11 : Int32)), (.int u)]))
                        by_cases hc23 : u = (11 : Int32)
                        · refine Gl.go ?_ (fun t k => XS.icmpNo X0.here hx rfl (hb hby d1_106) rfl (teq hc23).2 k)
                          show Gl _ _ _ _ (s₁.setTop (mkF m 109 #[.val (.int u)] []))
                          obtain ⟨T24, X24, e24, st24⟩ := getS2 X0 hx hZ hown (host := "") (Or.inl (hw _ (List.mem_of_getElem? (i := 29) rfl))) Via.refl e0 S_11 (g := (mkF m 109 #[.val (.int u)] [])) rfl (hb hby d1_109)
                          refine Gl.go ?_ st24
                          show Gl _ _ _ _ (T24.setTop (mkF m 112 #[.val (.int u)] [(.ref (A 11))]))
                          obtain ⟨fs, hr, hrun, hended, hW, hsame⟩ := X24.leave (v := some (.ref (A 11))) (fun h => by rw [Bd.returns] at h; cases h)
                          exact Gl.mk ⟨_, _, retOut X24 hx Bd.returns rfl (Or.inr (Or.inr (Or.inr (Or.inr ⟨rfl, rfl, rfl⟩)))) (hb hby d1_112) hr, hrun, hended, _, _, rfl, ⟨congrArg (fun z => some (Value.ref z)) ((if_neg hc1).trans ((if_neg hc3).trans ((if_neg hc5).trans ((if_neg hc7).trans ((if_neg hc9).trans ((if_neg hc11).trans ((if_neg hc13).trans ((if_neg hc15).trans ((if_neg hc17).trans ((if_neg hc19).trans ((if_neg hc21).trans ((if_pos hc23).trans (rfl))))))))))))).symm, rfl, e24⟩, ⟨_, rfl⟩, hW, hsame.mono (by decide) (by decide)⟩
                        · refine Gl.go ?_ (fun t k => XS.icmpYes X0.here hx rfl (pc0 := 106) (pc' := 113) rfl (hb hby d1_106) rfl (feq hc23).2 (by decide) (by decide) k)
                          show Gl _ _ _ _ (s₁.setTop (mkF m 113 #[.val (.int u)] []))
                          refine Gl.go ?_ (fun t k => XS.iloadN X0.here hx rfl (hb hby d1_113) rfl k)
                          show Gl _ _ _ _ (s₁.setTop (mkF m 114 #[.val (.int u)] [(.int u)]))
                          refine Gl.go ?_ (fun t k => XS.bipush X0.here hx rfl (hb hby d1_114) k)
                          show Gl _ _ _ _ (s₁.setTop (mkF m 116 #[.val (.int u)] [(.int (12 : Int32)), (.int u)]))
                          by_cases hc25 : u = (12 : Int32)
                          · refine Gl.go ?_ (fun t k => XS.icmpNo X0.here hx rfl (hb hby d1_116) rfl (teq hc25).2 k)
                            show Gl _ _ _ _ (s₁.setTop (mkF m 119 #[.val (.int u)] []))
                            obtain ⟨T26, X26, e26, st26⟩ := getS2 X0 hx hZ hown (host := "") (Or.inl (hw _ (List.mem_of_getElem? (i := 46) rfl))) Via.refl e0 S_12 (g := (mkF m 119 #[.val (.int u)] [])) rfl (hb hby d1_119)
                            refine Gl.go ?_ st26
                            show Gl _ _ _ _ (T26.setTop (mkF m 122 #[.val (.int u)] [(.ref (A 12))]))
                            obtain ⟨fs, hr, hrun, hended, hW, hsame⟩ := X26.leave (v := some (.ref (A 12))) (fun h => by rw [Bd.returns] at h; cases h)
                            exact Gl.mk ⟨_, _, retOut X26 hx Bd.returns rfl (Or.inr (Or.inr (Or.inr (Or.inr ⟨rfl, rfl, rfl⟩)))) (hb hby d1_122) hr, hrun, hended, _, _, rfl, ⟨congrArg (fun z => some (Value.ref z)) ((if_neg hc1).trans ((if_neg hc3).trans ((if_neg hc5).trans ((if_neg hc7).trans ((if_neg hc9).trans ((if_neg hc11).trans ((if_neg hc13).trans ((if_neg hc15).trans ((if_neg hc17).trans ((if_neg hc19).trans ((if_neg hc21).trans ((if_neg hc23).trans ((if_pos hc25).trans (rfl)))))))))))))).symm, rfl, e26⟩, ⟨_, rfl⟩, hW, hsame.mono (by decide) (by decide)⟩
                          · refine Gl.go ?_ (fun t k => XS.icmpYes X0.here hx rfl (pc0 := 116) (pc' := 123) rfl (hb hby d1_116) rfl (feq hc25).2 (by decide) (by decide) k)
                            show Gl _ _ _ _ (s₁.setTop (mkF m 123 #[.val (.int u)] []))
                            refine Gl.go ?_ (fun t k => XS.iloadN X0.here hx rfl (hb hby d1_123) rfl k)
                            show Gl _ _ _ _ (s₁.setTop (mkF m 124 #[.val (.int u)] [(.int u)]))
                            refine Gl.go ?_ (fun t k => XS.bipush X0.here hx rfl (hb hby d1_124) k)
                            show Gl _ _ _ _ (s₁.setTop (mkF m 126 #[.val (.int u)] [(.int (13 : Int32)), (.int u)]))
                            by_cases hc27 : u = (13 : Int32)
                            · refine Gl.go ?_ (fun t k => XS.icmpNo X0.here hx rfl (hb hby d1_126) rfl (teq hc27).2 k)
                              show Gl _ _ _ _ (s₁.setTop (mkF m 129 #[.val (.int u)] []))
                              obtain ⟨T28, X28, e28, st28⟩ := getS2 X0 hx hZ hown (host := "") (Or.inl (hw _ (List.mem_of_getElem? (i := 33) rfl))) Via.refl e0 S_13 (g := (mkF m 129 #[.val (.int u)] [])) rfl (hb hby d1_129)
                              refine Gl.go ?_ st28
                              show Gl _ _ _ _ (T28.setTop (mkF m 132 #[.val (.int u)] [(.ref (A 13))]))
                              obtain ⟨fs, hr, hrun, hended, hW, hsame⟩ := X28.leave (v := some (.ref (A 13))) (fun h => by rw [Bd.returns] at h; cases h)
                              exact Gl.mk ⟨_, _, retOut X28 hx Bd.returns rfl (Or.inr (Or.inr (Or.inr (Or.inr ⟨rfl, rfl, rfl⟩)))) (hb hby d1_132) hr, hrun, hended, _, _, rfl, ⟨congrArg (fun z => some (Value.ref z)) ((if_neg hc1).trans ((if_neg hc3).trans ((if_neg hc5).trans ((if_neg hc7).trans ((if_neg hc9).trans ((if_neg hc11).trans ((if_neg hc13).trans ((if_neg hc15).trans ((if_neg hc17).trans ((if_neg hc19).trans ((if_neg hc21).trans ((if_neg hc23).trans ((if_neg hc25).trans ((if_pos hc27).trans (rfl))))))))))))))).symm, rfl, e28⟩, ⟨_, rfl⟩, hW, hsame.mono (by decide) (by decide)⟩
                            · refine Gl.go ?_ (fun t k => XS.icmpYes X0.here hx rfl (pc0 := 126) (pc' := 133) rfl (hb hby d1_126) rfl (feq hc27).2 (by decide) (by decide) k)
                              show Gl _ _ _ _ (s₁.setTop (mkF m 133 #[.val (.int u)] []))
                              refine Gl.go ?_ (fun t k => XS.iloadN X0.here hx rfl (hb hby d1_133) rfl k)
                              show Gl _ _ _ _ (s₁.setTop (mkF m 134 #[.val (.int u)] [(.int u)]))
                              refine Gl.go ?_ (fun t k => XS.bipush X0.here hx rfl (hb hby d1_134) k)
                              show Gl _ _ _ _ (s₁.setTop (mkF m 136 #[.val (.int u)] [(.int (14 : Int32)), (.int u)]))
                              by_cases hc29 : u = (14 : Int32)
                              · refine Gl.go ?_ (fun t k => XS.icmpNo X0.here hx rfl (hb hby d1_136) rfl (teq hc29).2 k)
                                show Gl _ _ _ _ (s₁.setTop (mkF m 139 #[.val (.int u)] []))
                                obtain ⟨T30, X30, e30, st30⟩ := getS2 X0 hx hZ hown (host := "") (Or.inl (hw _ (List.mem_of_getElem? (i := 44) rfl))) Via.refl e0 S_14 (g := (mkF m 139 #[.val (.int u)] [])) rfl (hb hby d1_139)
                                refine Gl.go ?_ st30
                                show Gl _ _ _ _ (T30.setTop (mkF m 142 #[.val (.int u)] [(.ref (A 14))]))
                                obtain ⟨fs, hr, hrun, hended, hW, hsame⟩ := X30.leave (v := some (.ref (A 14))) (fun h => by rw [Bd.returns] at h; cases h)
                                exact Gl.mk ⟨_, _, retOut X30 hx Bd.returns rfl (Or.inr (Or.inr (Or.inr (Or.inr ⟨rfl, rfl, rfl⟩)))) (hb hby d1_142) hr, hrun, hended, _, _, rfl, ⟨congrArg (fun z => some (Value.ref z)) ((if_neg hc1).trans ((if_neg hc3).trans ((if_neg hc5).trans ((if_neg hc7).trans ((if_neg hc9).trans ((if_neg hc11).trans ((if_neg hc13).trans ((if_neg hc15).trans ((if_neg hc17).trans ((if_neg hc19).trans ((if_neg hc21).trans ((if_neg hc23).trans ((if_neg hc25).trans ((if_neg hc27).trans ((if_pos hc29).trans (rfl)))))))))))))))).symm, rfl, e30⟩, ⟨_, rfl⟩, hW, hsame.mono (by decide) (by decide)⟩
                              · refine Gl.go ?_ (fun t k => XS.icmpYes X0.here hx rfl (pc0 := 136) (pc' := 143) rfl (hb hby d1_136) rfl (feq hc29).2 (by decide) (by decide) k)
                                show Gl _ _ _ _ (s₁.setTop (mkF m 143 #[.val (.int u)] []))
                                refine Gl.go ?_ (fun t k => XS.iloadN X0.here hx rfl (hb hby d1_143) rfl k)
                                show Gl _ _ _ _ (s₁.setTop (mkF m 144 #[.val (.int u)] [(.int u)]))
                                refine Gl.go ?_ (fun t k => XS.bipush X0.here hx rfl (hb hby d1_144) k)
                                show Gl _ _ _ _ (s₁.setTop (mkF m 146 #[.val (.int u)] [(.int (15 : Int32)), (.int u)]))
                                by_cases hc31 : u = (15 : Int32)
                                · refine Gl.go ?_ (fun t k => XS.icmpNo X0.here hx rfl (hb hby d1_146) rfl (teq hc31).2 k)
                                  show Gl _ _ _ _ (s₁.setTop (mkF m 149 #[.val (.int u)] []))
                                  obtain ⟨T32, X32, e32, st32⟩ := getS2 X0 hx hZ hown (host := "") (Or.inl (hw _ (List.mem_of_getElem? (i := 40) rfl))) Via.refl e0 S_15 (g := (mkF m 149 #[.val (.int u)] [])) rfl (hb hby d1_149)
                                  refine Gl.go ?_ st32
                                  show Gl _ _ _ _ (T32.setTop (mkF m 152 #[.val (.int u)] [(.ref (A 15))]))
                                  obtain ⟨fs, hr, hrun, hended, hW, hsame⟩ := X32.leave (v := some (.ref (A 15))) (fun h => by rw [Bd.returns] at h; cases h)
                                  exact Gl.mk ⟨_, _, retOut X32 hx Bd.returns rfl (Or.inr (Or.inr (Or.inr (Or.inr ⟨rfl, rfl, rfl⟩)))) (hb hby d1_152) hr, hrun, hended, _, _, rfl, ⟨congrArg (fun z => some (Value.ref z)) ((if_neg hc1).trans ((if_neg hc3).trans ((if_neg hc5).trans ((if_neg hc7).trans ((if_neg hc9).trans ((if_neg hc11).trans ((if_neg hc13).trans ((if_neg hc15).trans ((if_neg hc17).trans ((if_neg hc19).trans ((if_neg hc21).trans ((if_neg hc23).trans ((if_neg hc25).trans ((if_neg hc27).trans ((if_neg hc29).trans ((if_pos hc31).trans (rfl))))))))))))))))).symm, rfl, e32⟩, ⟨_, rfl⟩, hW, hsame.mono (by decide) (by decide)⟩
                                · refine Gl.go ?_ (fun t k => XS.icmpYes X0.here hx rfl (pc0 := 146) (pc' := 153) rfl (hb hby d1_146) rfl (feq hc31).2 (by decide) (by decide) k)
                                  show Gl _ _ _ _ (s₁.setTop (mkF m 153 #[.val (.int u)] []))
                                  obtain ⟨T33, X33, e33, st33⟩ := getS2 X0 hx hZ hown (host := "") (Or.inl (hw _ (List.mem_of_getElem? (i := 39) rfl))) Via.refl e0 S_16 (g := (mkF m 153 #[.val (.int u)] [])) rfl (hb hby d1_153)
                                  refine Gl.go ?_ st33
                                  show Gl _ _ _ _ (T33.setTop (mkF m 156 #[.val (.int u)] [(.ref (A 16))]))
                                  obtain ⟨fs, hr, hrun, hended, hW, hsame⟩ := X33.leave (v := some (.ref (A 16))) (fun h => by rw [Bd.returns] at h; cases h)
                                  exact Gl.mk ⟨_, _, retOut X33 hx Bd.returns rfl (Or.inr (Or.inr (Or.inr (Or.inr ⟨rfl, rfl, rfl⟩)))) (hb hby d1_156) hr, hrun, hended, _, _, rfl, ⟨congrArg (fun z => some (Value.ref z)) ((if_neg hc1).trans ((if_neg hc3).trans ((if_neg hc5).trans ((if_neg hc7).trans ((if_neg hc9).trans ((if_neg hc11).trans ((if_neg hc13).trans ((if_neg hc15).trans ((if_neg hc17).trans ((if_neg hc19).trans ((if_neg hc21).trans ((if_neg hc23).trans ((if_neg hc25).trans ((if_neg hc27).trans ((if_neg hc29).trans ((if_neg hc31).trans (rfl))))))))))))))))).symm, rfl, e33⟩, ⟨_, rfl⟩, hW, hsame.mono (by decide) (by decide)⟩
theorem d2_0 : decode prog_32_method_8_code 0 = .ok (.aload_n 0, 1) := by decide +kernel
theorem d2_1 : decode prog_32_method_8_code 1 = .ok (.getfield 105, 3) := by decide +kernel
theorem d2_4 : decode prog_32_method_8_code 4 = .ok (.ifnull 14, 3) := by decide +kernel
theorem d2_7 : decode prog_32_method_8_code 7 = .ok (.aload_n 0, 1) := by decide +kernel
theorem d2_8 : decode prog_32_method_8_code 8 = .ok (.getstatic 52, 3) := by decide +kernel
theorem d2_11 : decode prog_32_method_8_code 11 = .ok (.if_acmp .eq 7, 3) := by decide +kernel
theorem d2_14 : decode prog_32_method_8_code 14 = .ok (.iconst 1, 1) := by decide +kernel
theorem d2_15 : decode prog_32_method_8_code 15 = .ok (.goto 4, 3) := by decide +kernel
theorem d2_18 : decode prog_32_method_8_code 18 = .ok (.iconst 0, 1) := by decide +kernel
theorem d2_19 : decode prog_32_method_8_code 19 = .ok (.ireturn, 1) := by decide +kernel
theorem pn_2 : plainName "com/example/litera/litera/PrimitiveType" = true := by first | (simp [plainName, overriddenIn]; done) | decide +kernel
def f_isInt (a : Addr) (mv : Value) (ts : Addr) : Int32 := (if mv = .null then (0 : Int32) else (if a = ts then (0 : Int32) else (1 : Int32)))
theorem ef_rm2 (m : MethodId) (x0 : Addr) : entryFrame m #[(.ref x0)] 1 = mkF m 0 #[.val (.ref x0)] [] := by first | (simp [entryFrame, mkF, argsToLocals, Value.category]; done) | rfl
set_option maxRecDepth 65536 in
set_option maxHeartbeats 40000000 in
theorem rm2 (l : Launch) (Z : State) (a0 : Array Value) (hw : ∀ d ∈ tables_1, d.before a0 Z = true) (ws : List Jvm.Cond) (a : Addr) (mv : Value) (ts : Addr) (h0 : Heap) (F : Fld Z h0 a "com/example/litera/litera/PrimitiveType" "min" "Ljava/math/BigInteger;" mv) (hr_mv : mv.isRef = true) (S_16 : Sta Z h0 "com/example/litera/litera/PrimitiveType" "TIMESTAMP" "Lcom/example/litera/litera/PrimitiveType;" (.ref ts)) :
    MetFree l (⟨"com/example/litera/litera/PrimitiveType", "isInteger", "()Z"⟩ : MethodName) (head1 (Jvm.Cond.code (⟨"com/example/litera/litera/PrimitiveType", "isInteger", "()Z"⟩ : MethodName) prog_32_method_8_code 1 (some .boolean) :: ws) ({ frames := 0, cells := 0, slots := 0, locals := 0 } : Room)) (fun aQ U => aQ = #[(.ref a)] ∧ Z.Warmed39 U.vm ∧ U.heap = h0) (fun _ _ _ _ _ => True) (fun _ U o U' => ∃ vQ LQ, o = .returned vQ ∧ PQ (some (.int (f_isInt a mv ts))) h0 vQ U'.heap LQ ∧ FrameEnd U o U' LQ ({ frames := 0, cells := 0, slots := 0, locals := 0 } : Room).cells ({ frames := 0, cells := 0, slots := 0, locals := 0 } : Room).slots) := by
  refine MetFree.of_bodySF (plainFor_of_name pn_2) hisR ?_
  intro p e s m args below meth c s₁ Bd hml0 hP hK
  obtain ⟨rfl, hZ, hh⟩ := hP
  have hx := Bd.exec
  have hby := Bd.bytes
  have hml : c.maxLocals = 1 := hml0
  have hown : s.vm.findClass "com/example/litera/litera/PrimitiveType" = some m.cls := findClass_of_methodNamed Bd.named
  have hnm := (name_of_methodNamed Bd.named Bd.method).1
  have X0 : Stand p l e ({ frames := 0, cells := 0, slots := 0, locals := 0 } : Room) s m #[(.ref a)] below meth c s₁ [] 0 0 := Stand.of_body Bd
  have e0 : s₁.heap = h0 := by rw [← hh, Bd.state]; rfl
  refine Gl.out ?_
  refine Gl.go ?_ (fun t k => castTop (ef_rm2 m a) k)
  show Gl _ _ _ _ (s₁.setTop (mkF m 0 #[.val (.ref a)] []))
  refine Gl.go ?_ (fun t k => XS.aloadN X0.here hx rfl (hb hby d2_0) rfl rfl k)
  show Gl _ _ _ _ (s₁.setTop (mkF m 1 #[.val (.ref a)] [(.ref a)]))
  obtain ⟨T34, X34, e34, st34⟩ := getF X0 hx hZ hown (host := "") (Or.inl (hw _ (List.mem_of_getElem? (i := 13) rfl))) Via.refl e0 F (g := (mkF m 1 #[.val (.ref a)] [(.ref a)])) rfl rfl (hb hby d2_1)
  refine Gl.go ?_ st34
  show Gl _ _ _ _ (T34.setTop (mkF m 4 #[.val (.ref a)] [mv]))
  rcases own_ref hr_mv with rfl | ⟨b35, rfl⟩
  · show Gl _ _ _ _ (T34.setTop (mkF m 4 #[.val (.ref a)] [.null]))
    refine Gl.go ?_ (fun t k => XS.ifnullYes X34.here hx rfl (pc0 := 4) (pc' := 18) rfl (hb hby d2_4) rfl (by decide) (by decide) k)
    show Gl _ _ _ _ (T34.setTop (mkF m 18 #[.val (.ref a)] []))
    refine Gl.go ?_ (fun t k => XS.iconst X34.here hx rfl (hb hby d2_18) k)
    show Gl _ _ _ _ (T34.setTop (mkF m 19 #[.val (.ref a)] [(.int (0 : Int32))]))
    obtain ⟨fs, hr, hrun, hended, hW, hsame⟩ := X34.leave (v := some (.int (0 : Int32))) (fun h => by rw [Bd.returns] at h; cases h)
    exact Gl.mk ⟨_, _, retN X34 hx (t := .boolean) Bd.returns (by simp) (hb hby d2_19) hr, hrun, hended, _, _, rfl, ⟨congrArg (fun z => some (Value.int z)) ((if_pos (rfl : (Value.null : Value) = .null)).trans (rfl)).symm, rfl, e34⟩, ⟨_, rfl⟩, hW, hsame.mono (by decide) (by decide)⟩
  · show Gl _ _ _ _ (T34.setTop (mkF m 4 #[.val (.ref a)] [(.ref b35)]))
    refine Gl.go ?_ (fun t k => XS.ifnullNo X34.here hx rfl (hb hby d2_4) rfl k)
    show Gl _ _ _ _ (T34.setTop (mkF m 7 #[.val (.ref a)] []))
    refine Gl.go ?_ (fun t k => XS.aloadN X34.here hx rfl (hb hby d2_7) rfl rfl k)
    show Gl _ _ _ _ (T34.setTop (mkF m 8 #[.val (.ref a)] [(.ref a)]))
    obtain ⟨T36, X36, e36, st36⟩ := getS2 X34 hx hZ hown (host := "") (Or.inl (hw _ (List.mem_of_getElem? (i := 17) rfl))) Via.refl e34 S_16 (g := (mkF m 8 #[.val (.ref a)] [(.ref a)])) rfl (hb hby d2_8)
    refine Gl.go ?_ st36
    show Gl _ _ _ _ (T36.setTop (mkF m 11 #[.val (.ref a)] [(.ref ts), (.ref a)]))
    by_cases ha37 : a = ts
    · refine Gl.go ?_ (fun t k => Jvm.RoadKit.acmp (g := (mkF m 11 #[.val (.ref a)] [(.ref ts), (.ref a)])) X36 hx rfl rfl rfl (pc0 := 11) (pc' := 18) (same := true) rfl (hb hby d2_11) rfl (decide_eq_true (congrArg Value.ref ha37)) (by decide) (by decide) k)
      show Gl _ _ _ _ (T36.setTop (mkF m 18 #[.val (.ref a)] []))
      refine Gl.go ?_ (fun t k => XS.iconst X36.here hx rfl (hb hby d2_18) k)
      show Gl _ _ _ _ (T36.setTop (mkF m 19 #[.val (.ref a)] [(.int (0 : Int32))]))
      obtain ⟨fs, hr, hrun, hended, hW, hsame⟩ := X36.leave (v := some (.int (0 : Int32))) (fun h => by rw [Bd.returns] at h; cases h)
      exact Gl.mk ⟨_, _, retN X36 hx (t := .boolean) Bd.returns (by simp) (hb hby d2_19) hr, hrun, hended, _, _, rfl, ⟨congrArg (fun z => some (Value.int z)) ((if_neg (own_nr b35)).trans ((if_pos ha37).trans (rfl))).symm, rfl, e36⟩, ⟨_, rfl⟩, hW, hsame.mono (by decide) (by decide)⟩
    · refine Gl.go ?_ (fun t k => Jvm.RoadKit.acmp (g := (mkF m 11 #[.val (.ref a)] [(.ref ts), (.ref a)])) X36 hx rfl rfl rfl (pc0 := 11) (pc' := 14) (same := false) rfl (hb hby d2_11) rfl (decide_eq_false fun q => ha37 (Value.ref.inj q)) (by decide) (by decide) k)
      show Gl _ _ _ _ (T36.setTop (mkF m 14 #[.val (.ref a)] []))
      refine Gl.go ?_ (fun t k => XS.iconst X36.here hx rfl (hb hby d2_14) k)
      show Gl _ _ _ _ (T36.setTop (mkF m 15 #[.val (.ref a)] [(.int (1 : Int32))]))
      refine Gl.go ?_ (fun t k => XS.goto X36.here hx rfl (pc0 := 15) (pc' := 19) rfl (hb hby d2_15) (by decide) (by decide) k)
      show Gl _ _ _ _ (T36.setTop (mkF m 19 #[.val (.ref a)] [(.int (1 : Int32))]))
      obtain ⟨fs, hr, hrun, hended, hW, hsame⟩ := X36.leave (v := some (.int (1 : Int32))) (fun h => by rw [Bd.returns] at h; cases h)
      exact Gl.mk ⟨_, _, retN X36 hx (t := .boolean) Bd.returns (by simp) (hb hby d2_19) hr, hrun, hended, _, _, rfl, ⟨congrArg (fun z => some (Value.int z)) ((if_neg (own_nr b35)).trans ((if_neg ha37).trans (rfl))).symm, rfl, e36⟩, ⟨_, rfl⟩, hW, hsame.mono (by decide) (by decide)⟩
theorem own_all17 {P : Nat → Prop} (h0 : P 0) (h1 : P 1) (h2 : P 2) (h3 : P 3) (h4 : P 4) (h5 : P 5) (h6 : P 6) (h7 : P 7) (h8 : P 8) (h9 : P 9) (h10 : P 10) (h11 : P 11) (h12 : P 12) (h13 : P 13) (h14 : P 14) (h15 : P 15) (h16 : P 16) : ∀ n, n < 17 → P n := by
  intro n hn
  obtain rfl | rfl | rfl | rfl | rfl | rfl | rfl | rfl | rfl | rfl | rfl | rfl | rfl | rfl | rfl | rfl | rfl : n = 0 ∨ n = 1 ∨ n = 2 ∨ n = 3 ∨ n = 4 ∨ n = 5 ∨ n = 6 ∨ n = 7 ∨ n = 8 ∨ n = 9 ∨ n = 10 ∨ n = 11 ∨ n = 12 ∨ n = 13 ∨ n = 14 ∨ n = 15 ∨ n = 16 := by omega
  all_goals assumption
theorem own_pick (A : Nat → Addr) : ∀ n, n < 17 → f_pick (Int32.ofNat n) A = A n :=
  own_all17 (P := fun n => f_pick (Int32.ofNat n) A = A n) rfl rfl rfl rfl rfl rfl rfl rfl rfl rfl rfl rfl rfl rfl rfl rfl rfl
theorem own_isint (A : Nat → Addr) (M : Nat → Value) (hM : ∀ n, n < 17 → n = 0 ∨ 11 ≤ n → n ≤ 15 → M n = .null) (hA : ∀ n, n < 17 → 1 ≤ n → n ≤ 10 → M n ≠ .null ∧ A n ≠ A 16) (n : Nat) (hn : n < 17) : f_isInt (A n) (M n) (A 16) = if (Int32.ofNat n) < (1 : Int32) then 0 else if (10 : Int32) < (Int32.ofNat n) then 0 else 1 := by
  have e : (Int32.ofNat n).toInt = n := Int32.toInt_ofNat_of_lt (by omega)
  by_cases h1 : 1 ≤ n ∧ n ≤ 10
  · obtain ⟨q1, q2⟩ := hA n hn h1.1 h1.2
    rw [if_neg (iv_nlt' (k := 1) rfl (by omega)), if_neg (iv_ngt' (k := 10) rfl (by omega))]
    simp [f_isInt, q1, q2]
  · have q : (if (Int32.ofNat n) < (1 : Int32) then (0 : Int32) else if (10 : Int32) < (Int32.ofNat n) then 0 else 1) = 0 := by
      by_cases h2 : n = 0
      · rw [if_pos (iv_lt' (k := 1) rfl (by omega))]
      · rw [if_neg (iv_nlt' (k := 1) rfl (by omega)), if_pos (iv_gt' (k := 10) rfl (by omega))]
    rw [q]
    by_cases h3 : n = 16
    · subst h3; simp [f_isInt]
    · rw [hM n hn (by omega) (by omega)]; rfl
theorem pn_0 : plainName "com/example/litera/litera/PrimitiveTypeIsIntegerPinLaw" = true := by first | (simp [plainName, overriddenIn]; done) | decide +kernel
theorem pd_0 : parseMethodDescriptor "(I)Lcom/example/litera/litera/PrimitiveType;" = some ⟨[.int], some (.object "com/example/litera/litera/PrimitiveType")⟩ := by decide +kernel
theorem pd_1 : parseMethodDescriptor "()Z" = some ⟨[], some .boolean⟩ := by decide +kernel
def f_law (n : Nat) : Int32 := (if (Int32.ofNat n) < (1 : Int32) then (1 : Int32) else (if (10 : Int32) < (Int32.ofNat n) then (1 : Int32) else (1 : Int32)))
theorem ef_rm0 (m : MethodId) (x0 : Int32) : entryFrame m #[(.int x0)] maxLocals = mkF m 0 #[.val (.int x0), .unset, .unset, .unset] [] := by first | (simp [entryFrame, mkF, argsToLocals, Value.category, maxLocals]; done) | rfl
set_option maxRecDepth 65536 in
set_option maxHeartbeats 40000000 in
theorem rm0 (l : Launch) (Z : State) (a0 : Array Value) (hw : ∀ d ∈ tables_1, d.before a0 Z = true) (ws : List Jvm.Cond) (u : Int32) (A : Nat → Addr) (M : Nat → Value) (n : Nat) (h0 : Heap) (S_0 : Sta Z h0 "com/example/litera/litera/PrimitiveType" "BOOL" "Lcom/example/litera/litera/PrimitiveType;" (.ref (A 0))) (S_1 : Sta Z h0 "com/example/litera/litera/PrimitiveType" "S8" "Lcom/example/litera/litera/PrimitiveType;" (.ref (A 1))) (S_2 : Sta Z h0 "com/example/litera/litera/PrimitiveType" "S16" "Lcom/example/litera/litera/PrimitiveType;" (.ref (A 2))) (S_3 : Sta Z h0 "com/example/litera/litera/PrimitiveType" "S32" "Lcom/example/litera/litera/PrimitiveType;" (.ref (A 3))) (S_4 : Sta Z h0 "com/example/litera/litera/PrimitiveType" "S64" "Lcom/example/litera/litera/PrimitiveType;" (.ref (A 4))) (S_5 : Sta Z h0 "com/example/litera/litera/PrimitiveType" "S128" "Lcom/example/litera/litera/PrimitiveType;" (.ref (A 5))) (S_6 : Sta Z h0 "com/example/litera/litera/PrimitiveType" "U8" "Lcom/example/litera/litera/PrimitiveType;" (.ref (A 6))) (S_7 : Sta Z h0 "com/example/litera/litera/PrimitiveType" "U16" "Lcom/example/litera/litera/PrimitiveType;" (.ref (A 7))) (S_8 : Sta Z h0 "com/example/litera/litera/PrimitiveType" "U32" "Lcom/example/litera/litera/PrimitiveType;" (.ref (A 8))) (S_9 : Sta Z h0 "com/example/litera/litera/PrimitiveType" "U64" "Lcom/example/litera/litera/PrimitiveType;" (.ref (A 9))) (S_10 : Sta Z h0 "com/example/litera/litera/PrimitiveType" "U128" "Lcom/example/litera/litera/PrimitiveType;" (.ref (A 10))) (S_11 : Sta Z h0 "com/example/litera/litera/PrimitiveType" "FLOAT32" "Lcom/example/litera/litera/PrimitiveType;" (.ref (A 11))) (S_12 : Sta Z h0 "com/example/litera/litera/PrimitiveType" "FLOAT64" "Lcom/example/litera/litera/PrimitiveType;" (.ref (A 12))) (S_13 : Sta Z h0 "com/example/litera/litera/PrimitiveType" "CHAR" "Lcom/example/litera/litera/PrimitiveType;" (.ref (A 13))) (S_14 : Sta Z h0 "com/example/litera/litera/PrimitiveType" "STRING" "Lcom/example/litera/litera/PrimitiveType;" (.ref (A 14))) (S_15 : Sta Z h0 "com/example/litera/litera/PrimitiveType" "BYTES" "Lcom/example/litera/litera/PrimitiveType;" (.ref (A 15))) (S_16 : Sta Z h0 "com/example/litera/litera/PrimitiveType" "TIMESTAMP" "Lcom/example/litera/litera/PrimitiveType;" (.ref (A 16))) (hM : ∀ n, n < 17 → n = 0 ∨ 11 ≤ n → n ≤ 15 → M n = .null) (hA : ∀ n, n < 17 → 1 ≤ n → n ≤ 10 → M n ≠ .null ∧ A n ≠ A 16) (E_n : Exa Z h0 (A n) "com/example/litera/litera/PrimitiveType") (F_n : Fld Z h0 (A n) "com/example/litera/litera/PrimitiveType" "min" "Ljava/math/BigInteger;" (M n)) (hr_n : (M n).isRef = true) (hn : n < 17) (hi : (u &&& (2147483647 : Int32)) % (17 : Int32) = Int32.ofNat n) :
    MetFree l x (head1 (Jvm.Cond.code x code maxLocals ret :: ws) room_1) (fun aQ U => aQ = #[(.int u)] ∧ Z.Warmed39 U.vm ∧ U.heap = h0) (fun _ _ _ _ _ => True) (fun _ U o U' => ∃ vQ LQ, o = .returned vQ ∧ PQ (some (.int (f_law n))) h0 vQ U'.heap LQ ∧ FrameEnd U o U' LQ room_1.cells room_1.slots) := by
  refine MetFree.of_bodySF (plainFor_of_name pn_0) hisR ?_
  intro p e s m args below meth c s₁ Bd hml0 hP hK
  obtain ⟨rfl, hZ, hh⟩ := hP
  have hx := Bd.exec
  have hby := Bd.bytes
  have hml : c.maxLocals = 4 := hml0
  have hown : s.vm.findClass "com/example/litera/litera/PrimitiveTypeIsIntegerPinLaw" = some m.cls := findClass_of_methodNamed Bd.named
  have hnm := (name_of_methodNamed Bd.named Bd.method).1
  have X0 : Stand p l e room_1 s m #[(.int u)] below meth c s₁ [] 0 0 := Stand.of_body Bd
  have e0 : s₁.heap = h0 := by rw [← hh, Bd.state]; rfl
  refine Gl.out ?_
  refine Gl.go ?_ (fun t k => castTop (ef_rm0 m u) k)
  show Gl _ _ _ _ (s₁.setTop (mkF m 0 #[.val (.int u), .unset, .unset, .unset] []))
  refine Gl.go ?_ (fun t k => XS.iloadN X0.here hx rfl (hb hby at_0) rfl k)
  show Gl _ _ _ _ (s₁.setTop (mkF m 1 #[.val (.int u), .unset, .unset, .unset] [(.int u)]))
  refine Gl.go ?_ (X0.ldcInt hx hown (mvT hZ (hw _ (List.mem_of_getElem? (i := 0) rfl))) (g := (mkF m 1 #[.val (.int u), .unset, .unset, .unset] [(.int u)])) rfl (hb hby at_1))
  show Gl _ _ _ _ (s₁.setTop (mkF m 3 #[.val (.int u), .unset, .unset, .unset] [(.int (2147483647 : Int32)), (.int u)]))
  refine Gl.go ?_ (fun t k => XS.iand X0.here hx rfl (hb hby at_3) rfl k)
  show Gl _ _ _ _ (s₁.setTop (mkF m 4 #[.val (.int u), .unset, .unset, .unset] [(.int (u &&& (2147483647 : Int32)))]))
  refine Gl.go ?_ (fun t k => XS.bipush X0.here hx rfl (hb hby at_4) k)
  show Gl _ _ _ _ (s₁.setTop (mkF m 6 #[.val (.int u), .unset, .unset, .unset] [(.int (17 : Int32)), (.int (u &&& (2147483647 : Int32)))]))
  refine Gl.go ?_ (fun t k => iremM X0 hx rfl (hb hby at_6) rfl (by decide) k)
  show Gl _ _ _ _ (s₁.setTop (mkF m 7 #[.val (.int u), .unset, .unset, .unset] [(.int ((u &&& (2147483647 : Int32)) % (17 : Int32)))]))
  rw [hi]
  refine Gl.go ?_ (fun t k => XS.istoreN X0.here hx rfl (hb hby at_7) rfl (l' := #[.val (.int u), .val (.int (Int32.ofNat n)), .unset, .unset]) rfl k)
  show Gl _ _ _ _ (s₁.setTop (mkF m 8 #[.val (.int u), .val (.int (Int32.ofNat n)), .unset, .unset] []))
  refine Gl.go ?_ (fun t k => XS.iloadN X0.here hx rfl (hb hby at_8) rfl k)
  show Gl _ _ _ _ (s₁.setTop (mkF m 9 #[.val (.int u), .val (.int (Int32.ofNat n)), .unset, .unset] [(.int (Int32.ofNat n))]))
  obtain ⟨_, _, ⟨T38, L38, k38, n38⟩, -, X38, ⟨Lc38, hQ38, l38, y38, z38⟩, st38⟩ := Jvm.LawKit.callS X0 hx (y := (⟨"com/example/litera/litera/PrimitiveTypeIsIntegerPinLaw", "pick", "(I)Lcom/example/litera/litera/PrimitiveType;"⟩ : MethodName)) hown (mvT hZ (hw _ (List.mem_of_getElem? (i := 1) rfl))) (mvT hZ (hw _ (List.mem_of_getElem? (i := 2) rfl))) (mvT hZ (hw _ (List.mem_of_getElem? (i := 3) rfl))) (mvT hZ (hw _ (List.mem_of_getElem? (i := 4) rfl))) (by decide) (backOf (W := 0) (rm1 l Z a0 hw [] (Int32.ofNat n) A h0 S_0 S_1 S_2 S_3 S_4 S_5 S_6 S_7 S_8 S_9 S_10 S_11 S_12 S_13 S_14 S_15 S_16) hZ (hw _ (List.mem_of_getElem? (i := 4) rfl)) (hw _ (List.mem_of_getElem? (i := 3) rfl)) (by decide) (by decide)) (g := (mkF m 9 #[.val (.int u), .val (.int (Int32.ofNat n)), .unset, .unset] [(.int (Int32.ofNat n))])) rfl (by rw [hml]; rfl) (argsL := [(.int (Int32.ofNat n))]) (rest := []) (lenOf pd_0 rfl) rfl (by show 2 * 0 + _ ≤ _; exact Nat.le_of_eq rfl) (hb hby at_9) (fun _ _ => ⟨rfl, e0, (by decide : 0 + 0 ≤ _), (by decide : 0 + 0 ≤ _)⟩)
  dsimp only [Pt.U, Pt.locs, Pt.cells, Pt.slots] at X38 l38 y38 z38 st38 hQ38
  subst l38 y38 z38
  obtain ⟨hv38, rfl, e38⟩ := hQ38
  rw [own_pick A n hn] at hv38
  subst hv38
  refine Gl.go ?_ st38
  show Gl _ _ _ _ (T38.setTop (mkF m 12 #[.val (.int u), .val (.int (Int32.ofNat n)), .unset, .unset] [(.ref (A n))]))
  refine Gl.go ?_ (fun t k => XS.astoreN X38.here hx rfl (hb hby at_12) rfl rfl (l' := #[.val (.int u), .val (.int (Int32.ofNat n)), .val (.ref (A n)), .unset]) rfl k)
  show Gl _ _ _ _ (T38.setTop (mkF m 13 #[.val (.int u), .val (.int (Int32.ofNat n)), .val (.ref (A n)), .unset] []))
  refine Gl.go ?_ (fun t k => XS.iloadN X38.here hx rfl (hb hby at_13) rfl k)
  show Gl _ _ _ _ (T38.setTop (mkF m 14 #[.val (.int u), .val (.int (Int32.ofNat n)), .val (.ref (A n)), .unset] [(.int (Int32.ofNat n))]))
  refine Gl.go ?_ (fun t k => XS.iconst X38.here hx rfl (hb hby at_14) k)
  show Gl _ _ _ _ (T38.setTop (mkF m 15 #[.val (.int u), .val (.int (Int32.ofNat n)), .val (.ref (A n)), .unset] [(.int (1 : Int32)), (.int (Int32.ofNat n))]))
  by_cases hc39 : (Int32.ofNat n) < (1 : Int32)
  · refine Gl.go ?_ (fun t k => XS.icmpYes X38.here hx rfl (pc0 := 15) (pc' := 28) rfl (hb hby at_15) rfl (tlt hc39).1 (by decide) (by decide) k)
    show Gl _ _ _ _ (T38.setTop (mkF m 28 #[.val (.int u), .val (.int (Int32.ofNat n)), .val (.ref (A n)), .unset] []))
    refine Gl.go ?_ (fun t k => XS.iconst X38.here hx rfl (hb hby at_28) k)
    show Gl _ _ _ _ (T38.setTop (mkF m 29 #[.val (.int u), .val (.int (Int32.ofNat n)), .val (.ref (A n)), .unset] [(.int (0 : Int32))]))
    refine Gl.go ?_ (fun t k => XS.istoreN X38.here hx rfl (hb hby at_29) rfl (l' := #[.val (.int u), .val (.int (Int32.ofNat n)), .val (.ref (A n)), .val (.int (0 : Int32))]) rfl k)
    show Gl _ _ _ _ (T38.setTop (mkF m 30 #[.val (.int u), .val (.int (Int32.ofNat n)), .val (.ref (A n)), .val (.int (0 : Int32))] []))
    refine Gl.go ?_ (fun t k => XS.aloadN X38.here hx rfl (hb hby at_30) rfl rfl k)
    show Gl _ _ _ _ (T38.setTop (mkF m 31 #[.val (.int u), .val (.int (Int32.ofNat n)), .val (.ref (A n)), .val (.int (0 : Int32))] [(.ref (A n))]))
    obtain ⟨cq40, kq40, q40a, q40b, q40c⟩ := isOf hZ e38 E_n
    obtain ⟨_, _, ⟨T40, L40, k40, n40⟩, -, X40, ⟨Lc40, hQ40, l40, y40, z40⟩, st40⟩ := X38.virtualBack hx (y := (⟨"com/example/litera/litera/PrimitiveType", "isInteger", "()Z"⟩ : MethodName)) (z := (⟨"com/example/litera/litera/PrimitiveType", "isInteger", "()Z"⟩ : MethodName)) hown (mvT hZ (hw _ (List.mem_of_getElem? (i := 8) rfl))) (mvT hZ (hw _ (List.mem_of_getElem? (i := 9) rfl))) (notFace_of_selects (args := #[]) (mvT hZ (hw _ (List.mem_of_getElem? (i := 11) rfl)))) (mvT hZ (hw _ (List.mem_of_getElem? (i := 11) rfl))) (mvT hZ (hw _ (List.mem_of_getElem? (i := 10) rfl))) (by decide) (backOf (W := 0) (rm2 l Z a0 hw [] (A n) (M n) (A 16) h0 F_n hr_n S_16) hZ (hw _ (List.mem_of_getElem? (i := 12) rfl)) (hw _ (List.mem_of_getElem? (i := 6) rfl)) (by decide) (by decide)) q40a q40c (g := (mkF m 31 #[.val (.int u), .val (.int (Int32.ofNat n)), .val (.ref (A n)), .val (.int (0 : Int32))] [(.ref (A n))])) rfl (by rw [hml]; rfl) (Steps.refl _) (argsL := []) (rest := []) (lenOf pd_1 rfl) rfl (by show 2 * 0 + _ ≤ _; exact Nat.le_of_eq rfl) (hb hby at_31) (fun _ _ => ⟨rfl, e38, (by decide : 0 + 0 ≤ _), (by decide : 0 + 0 ≤ _)⟩)
    dsimp only [Pt.U, Pt.locs, Pt.cells, Pt.slots] at X40 l40 y40 z40 st40 hQ40
    subst l40 y40 z40
    obtain ⟨hv40, rfl, e40⟩ := hQ40
    rw [(own_isint A M hM hA n hn).trans (if_pos hc39)] at hv40
    subst hv40
    refine Gl.tr ?_ st40
    show Gl _ _ _ _ (T40.setTop (mkF m 34 #[.val (.int u), .val (.int (Int32.ofNat n)), .val (.ref (A n)), .val (.int (0 : Int32))] [(.int (0 : Int32))]))
    refine Gl.go ?_ (fun t k => XS.iloadN X40.here hx rfl (hb hby at_34) rfl k)
    show Gl _ _ _ _ (T40.setTop (mkF m 35 #[.val (.int u), .val (.int (Int32.ofNat n)), .val (.ref (A n)), .val (.int (0 : Int32))] [(.int (0 : Int32)), (.int (0 : Int32))]))
    refine Gl.go ?_ (fun t k => XS.icmpNo X40.here hx rfl (hb hby at_35) rfl (teq (by decide : (0 : Int32) = (0 : Int32))).2 k)
    show Gl _ _ _ _ (T40.setTop (mkF m 38 #[.val (.int u), .val (.int (Int32.ofNat n)), .val (.ref (A n)), .val (.int (0 : Int32))] []))
    refine Gl.go ?_ (fun t k => XS.iconst X40.here hx rfl (hb hby at_38) k)
    show Gl _ _ _ _ (T40.setTop (mkF m 39 #[.val (.int u), .val (.int (Int32.ofNat n)), .val (.ref (A n)), .val (.int (0 : Int32))] [(.int (1 : Int32))]))
    refine Gl.go ?_ (fun t k => XS.goto X40.here hx rfl (pc0 := 39) (pc' := 43) rfl (hb hby at_39) (by decide) (by decide) k)
    show Gl _ _ _ _ (T40.setTop (mkF m 43 #[.val (.int u), .val (.int (Int32.ofNat n)), .val (.ref (A n)), .val (.int (0 : Int32))] [(.int (1 : Int32))]))
    obtain ⟨fs, hr, hrun, hended, hW, hsame⟩ := X40.leave (v := some (.int (1 : Int32))) (fun h => by rw [Bd.returns] at h; cases h)
    exact Gl.mk ⟨_, _, retN X40 hx (t := .boolean) Bd.returns (by simp) (hb hby at_43) hr, hrun, hended, _, _, rfl, ⟨congrArg (fun z => some (Value.int z)) ((if_pos hc39).trans (rfl)).symm, rfl, e40⟩, ⟨_, rfl⟩, hW, hsame.mono (by decide) (by decide)⟩
  · refine Gl.go ?_ (fun t k => XS.icmpNo X38.here hx rfl (hb hby at_15) rfl (flt hc39).1 k)
    show Gl _ _ _ _ (T38.setTop (mkF m 18 #[.val (.int u), .val (.int (Int32.ofNat n)), .val (.ref (A n)), .unset] []))
    refine Gl.go ?_ (fun t k => XS.iloadN X38.here hx rfl (hb hby at_18) rfl k)
    show Gl _ _ _ _ (T38.setTop (mkF m 19 #[.val (.int u), .val (.int (Int32.ofNat n)), .val (.ref (A n)), .unset] [(.int (Int32.ofNat n))]))
    refine Gl.go ?_ (fun t k => XS.bipush X38.here hx rfl (hb hby at_19) k)
    show Gl _ _ _ _ (T38.setTop (mkF m 21 #[.val (.int u), .val (.int (Int32.ofNat n)), .val (.ref (A n)), .unset] [(.int (10 : Int32)), (.int (Int32.ofNat n))]))
    by_cases hc41 : (10 : Int32) < (Int32.ofNat n)
    · refine Gl.go ?_ (fun t k => XS.icmpYes X38.here hx rfl (pc0 := 21) (pc' := 28) rfl (hb hby at_21) rfl (tlt hc41).2.2.1 (by decide) (by decide) k)
      show Gl _ _ _ _ (T38.setTop (mkF m 28 #[.val (.int u), .val (.int (Int32.ofNat n)), .val (.ref (A n)), .unset] []))
      refine Gl.go ?_ (fun t k => XS.iconst X38.here hx rfl (hb hby at_28) k)
      show Gl _ _ _ _ (T38.setTop (mkF m 29 #[.val (.int u), .val (.int (Int32.ofNat n)), .val (.ref (A n)), .unset] [(.int (0 : Int32))]))
      refine Gl.go ?_ (fun t k => XS.istoreN X38.here hx rfl (hb hby at_29) rfl (l' := #[.val (.int u), .val (.int (Int32.ofNat n)), .val (.ref (A n)), .val (.int (0 : Int32))]) rfl k)
      show Gl _ _ _ _ (T38.setTop (mkF m 30 #[.val (.int u), .val (.int (Int32.ofNat n)), .val (.ref (A n)), .val (.int (0 : Int32))] []))
      refine Gl.go ?_ (fun t k => XS.aloadN X38.here hx rfl (hb hby at_30) rfl rfl k)
      show Gl _ _ _ _ (T38.setTop (mkF m 31 #[.val (.int u), .val (.int (Int32.ofNat n)), .val (.ref (A n)), .val (.int (0 : Int32))] [(.ref (A n))]))
      obtain ⟨cq42, kq42, q42a, q42b, q42c⟩ := isOf hZ e38 E_n
      obtain ⟨_, _, ⟨T42, L42, k42, n42⟩, -, X42, ⟨Lc42, hQ42, l42, y42, z42⟩, st42⟩ := X38.virtualBack hx (y := (⟨"com/example/litera/litera/PrimitiveType", "isInteger", "()Z"⟩ : MethodName)) (z := (⟨"com/example/litera/litera/PrimitiveType", "isInteger", "()Z"⟩ : MethodName)) hown (mvT hZ (hw _ (List.mem_of_getElem? (i := 8) rfl))) (mvT hZ (hw _ (List.mem_of_getElem? (i := 9) rfl))) (notFace_of_selects (args := #[]) (mvT hZ (hw _ (List.mem_of_getElem? (i := 11) rfl)))) (mvT hZ (hw _ (List.mem_of_getElem? (i := 11) rfl))) (mvT hZ (hw _ (List.mem_of_getElem? (i := 10) rfl))) (by decide) (backOf (W := 0) (rm2 l Z a0 hw [] (A n) (M n) (A 16) h0 F_n hr_n S_16) hZ (hw _ (List.mem_of_getElem? (i := 12) rfl)) (hw _ (List.mem_of_getElem? (i := 6) rfl)) (by decide) (by decide)) q42a q42c (g := (mkF m 31 #[.val (.int u), .val (.int (Int32.ofNat n)), .val (.ref (A n)), .val (.int (0 : Int32))] [(.ref (A n))])) rfl (by rw [hml]; rfl) (Steps.refl _) (argsL := []) (rest := []) (lenOf pd_1 rfl) rfl (by show 2 * 0 + _ ≤ _; exact Nat.le_of_eq rfl) (hb hby at_31) (fun _ _ => ⟨rfl, e38, (by decide : 0 + 0 ≤ _), (by decide : 0 + 0 ≤ _)⟩)
      dsimp only [Pt.U, Pt.locs, Pt.cells, Pt.slots] at X42 l42 y42 z42 st42 hQ42
      subst l42 y42 z42
      obtain ⟨hv42, rfl, e42⟩ := hQ42
      rw [(own_isint A M hM hA n hn).trans ((if_neg hc39).trans (if_pos hc41))] at hv42
      subst hv42
      refine Gl.tr ?_ st42
      show Gl _ _ _ _ (T42.setTop (mkF m 34 #[.val (.int u), .val (.int (Int32.ofNat n)), .val (.ref (A n)), .val (.int (0 : Int32))] [(.int (0 : Int32))]))
      refine Gl.go ?_ (fun t k => XS.iloadN X42.here hx rfl (hb hby at_34) rfl k)
      show Gl _ _ _ _ (T42.setTop (mkF m 35 #[.val (.int u), .val (.int (Int32.ofNat n)), .val (.ref (A n)), .val (.int (0 : Int32))] [(.int (0 : Int32)), (.int (0 : Int32))]))
      refine Gl.go ?_ (fun t k => XS.icmpNo X42.here hx rfl (hb hby at_35) rfl (teq (by decide : (0 : Int32) = (0 : Int32))).2 k)
      show Gl _ _ _ _ (T42.setTop (mkF m 38 #[.val (.int u), .val (.int (Int32.ofNat n)), .val (.ref (A n)), .val (.int (0 : Int32))] []))
      refine Gl.go ?_ (fun t k => XS.iconst X42.here hx rfl (hb hby at_38) k)
      show Gl _ _ _ _ (T42.setTop (mkF m 39 #[.val (.int u), .val (.int (Int32.ofNat n)), .val (.ref (A n)), .val (.int (0 : Int32))] [(.int (1 : Int32))]))
      refine Gl.go ?_ (fun t k => XS.goto X42.here hx rfl (pc0 := 39) (pc' := 43) rfl (hb hby at_39) (by decide) (by decide) k)
      show Gl _ _ _ _ (T42.setTop (mkF m 43 #[.val (.int u), .val (.int (Int32.ofNat n)), .val (.ref (A n)), .val (.int (0 : Int32))] [(.int (1 : Int32))]))
      obtain ⟨fs, hr, hrun, hended, hW, hsame⟩ := X42.leave (v := some (.int (1 : Int32))) (fun h => by rw [Bd.returns] at h; cases h)
      exact Gl.mk ⟨_, _, retN X42 hx (t := .boolean) Bd.returns (by simp) (hb hby at_43) hr, hrun, hended, _, _, rfl, ⟨congrArg (fun z => some (Value.int z)) ((if_neg hc39).trans ((if_pos hc41).trans (rfl))).symm, rfl, e42⟩, ⟨_, rfl⟩, hW, hsame.mono (by decide) (by decide)⟩
    · refine Gl.go ?_ (fun t k => XS.icmpNo X38.here hx rfl (hb hby at_21) rfl (flt hc41).2.2.1 k)
      show Gl _ _ _ _ (T38.setTop (mkF m 24 #[.val (.int u), .val (.int (Int32.ofNat n)), .val (.ref (A n)), .unset] []))
      refine Gl.go ?_ (fun t k => XS.iconst X38.here hx rfl (hb hby at_24) k)
      show Gl _ _ _ _ (T38.setTop (mkF m 25 #[.val (.int u), .val (.int (Int32.ofNat n)), .val (.ref (A n)), .unset] [(.int (1 : Int32))]))
      refine Gl.go ?_ (fun t k => XS.goto X38.here hx rfl (pc0 := 25) (pc' := 29) rfl (hb hby at_25) (by decide) (by decide) k)
      show Gl _ _ _ _ (T38.setTop (mkF m 29 #[.val (.int u), .val (.int (Int32.ofNat n)), .val (.ref (A n)), .unset] [(.int (1 : Int32))]))
      refine Gl.go ?_ (fun t k => XS.istoreN X38.here hx rfl (hb hby at_29) rfl (l' := #[.val (.int u), .val (.int (Int32.ofNat n)), .val (.ref (A n)), .val (.int (1 : Int32))]) rfl k)
      show Gl _ _ _ _ (T38.setTop (mkF m 30 #[.val (.int u), .val (.int (Int32.ofNat n)), .val (.ref (A n)), .val (.int (1 : Int32))] []))
      refine Gl.go ?_ (fun t k => XS.aloadN X38.here hx rfl (hb hby at_30) rfl rfl k)
      show Gl _ _ _ _ (T38.setTop (mkF m 31 #[.val (.int u), .val (.int (Int32.ofNat n)), .val (.ref (A n)), .val (.int (1 : Int32))] [(.ref (A n))]))
      obtain ⟨cq43, kq43, q43a, q43b, q43c⟩ := isOf hZ e38 E_n
      obtain ⟨_, _, ⟨T43, L43, k43, n43⟩, -, X43, ⟨Lc43, hQ43, l43, y43, z43⟩, st43⟩ := X38.virtualBack hx (y := (⟨"com/example/litera/litera/PrimitiveType", "isInteger", "()Z"⟩ : MethodName)) (z := (⟨"com/example/litera/litera/PrimitiveType", "isInteger", "()Z"⟩ : MethodName)) hown (mvT hZ (hw _ (List.mem_of_getElem? (i := 8) rfl))) (mvT hZ (hw _ (List.mem_of_getElem? (i := 9) rfl))) (notFace_of_selects (args := #[]) (mvT hZ (hw _ (List.mem_of_getElem? (i := 11) rfl)))) (mvT hZ (hw _ (List.mem_of_getElem? (i := 11) rfl))) (mvT hZ (hw _ (List.mem_of_getElem? (i := 10) rfl))) (by decide) (backOf (W := 0) (rm2 l Z a0 hw [] (A n) (M n) (A 16) h0 F_n hr_n S_16) hZ (hw _ (List.mem_of_getElem? (i := 12) rfl)) (hw _ (List.mem_of_getElem? (i := 6) rfl)) (by decide) (by decide)) q43a q43c (g := (mkF m 31 #[.val (.int u), .val (.int (Int32.ofNat n)), .val (.ref (A n)), .val (.int (1 : Int32))] [(.ref (A n))])) rfl (by rw [hml]; rfl) (Steps.refl _) (argsL := []) (rest := []) (lenOf pd_1 rfl) rfl (by show 2 * 0 + _ ≤ _; exact Nat.le_of_eq rfl) (hb hby at_31) (fun _ _ => ⟨rfl, e38, (by decide : 0 + 0 ≤ _), (by decide : 0 + 0 ≤ _)⟩)
      dsimp only [Pt.U, Pt.locs, Pt.cells, Pt.slots] at X43 l43 y43 z43 st43 hQ43
      subst l43 y43 z43
      obtain ⟨hv43, rfl, e43⟩ := hQ43
      rw [(own_isint A M hM hA n hn).trans ((if_neg hc39).trans (if_neg hc41))] at hv43
      subst hv43
      refine Gl.tr ?_ st43
      show Gl _ _ _ _ (T43.setTop (mkF m 34 #[.val (.int u), .val (.int (Int32.ofNat n)), .val (.ref (A n)), .val (.int (1 : Int32))] [(.int (1 : Int32))]))
      refine Gl.go ?_ (fun t k => XS.iloadN X43.here hx rfl (hb hby at_34) rfl k)
      show Gl _ _ _ _ (T43.setTop (mkF m 35 #[.val (.int u), .val (.int (Int32.ofNat n)), .val (.ref (A n)), .val (.int (1 : Int32))] [(.int (1 : Int32)), (.int (1 : Int32))]))
      refine Gl.go ?_ (fun t k => XS.icmpNo X43.here hx rfl (hb hby at_35) rfl (teq (by decide : (1 : Int32) = (1 : Int32))).2 k)
      show Gl _ _ _ _ (T43.setTop (mkF m 38 #[.val (.int u), .val (.int (Int32.ofNat n)), .val (.ref (A n)), .val (.int (1 : Int32))] []))
      refine Gl.go ?_ (fun t k => XS.iconst X43.here hx rfl (hb hby at_38) k)
      show Gl _ _ _ _ (T43.setTop (mkF m 39 #[.val (.int u), .val (.int (Int32.ofNat n)), .val (.ref (A n)), .val (.int (1 : Int32))] [(.int (1 : Int32))]))
      refine Gl.go ?_ (fun t k => XS.goto X43.here hx rfl (pc0 := 39) (pc' := 43) rfl (hb hby at_39) (by decide) (by decide) k)
      show Gl _ _ _ _ (T43.setTop (mkF m 43 #[.val (.int u), .val (.int (Int32.ofNat n)), .val (.ref (A n)), .val (.int (1 : Int32))] [(.int (1 : Int32))]))
      obtain ⟨fs, hr, hrun, hended, hW, hsame⟩ := X43.leave (v := some (.int (1 : Int32))) (fun h => by rw [Bd.returns] at h; cases h)
      exact Gl.mk ⟨_, _, retN X43 hx (t := .boolean) Bd.returns (by simp) (hb hby at_43) hr, hrun, hended, _, _, rfl, ⟨congrArg (fun z => some (Value.int z)) ((if_neg hc39).trans ((if_neg hc41).trans (rfl))).symm, rfl, e43⟩, ⟨_, rfl⟩, hW, hsame.mono (by decide) (by decide)⟩
theorem own_one (n : Nat) : f_law n = 1 := by
  unfold f_law
  repeat' split
  all_goals rfl
theorem own_succ {x : Int32} (h : x.toInt < 2147483647) : (x + 1).toInt = x.toInt + 1 := by
  have a := x.le_toInt
  exact Jvm.Kit.i32_add (by show -2 ^ 31 ≤ x.toInt + 1; omega) (by show x.toInt + 1 < 2 ^ 31; omega)
theorem own_len {u v : Int32} (h0 : 0 ≤ u.toInt) (h : u.toInt ≤ v.toInt) : u.toInt + ((v.toInt - u.toInt).toNat : Int) = v.toInt ∨ ((v.toInt - u.toInt).toNat = 0 ∧ ¬ u < v) := by
  left; omega
theorem own_nat {x : Int32} (h : 0 ≤ x.toInt) : x = Int32.ofNat x.toInt.toNat := by
  apply Int32.toInt_inj.mp
  have h2 := x.toInt_lt
  rw [Int32.toInt_ofNat_of_lt (by omega)]
  omega
theorem own_rem (x b : Int32) (hb : 0 < b.toInt) (k : Nat) (hk : b.toInt = k) : ∃ n : Nat, n < k ∧ (x &&& (2147483647 : Int32)) % b = Int32.ofNat n := by
  have h0 : (x &&& (2147483647 : Int32)).toInt = x.toInt % 2 ^ 31 := Jvm.Kit.i32_mask x 2147483647 (k := 31) (by decide) (by decide)
  have h3 : 0 ≤ (x &&& (2147483647 : Int32)).toInt := by omega
  have e : ((x &&& (2147483647 : Int32)) % b).toInt = (x &&& (2147483647 : Int32)).toInt % b.toInt := by
    rw [Int32.toInt_mod, Int.tmod_eq_emod_of_nonneg h3]
  have h1 : 0 ≤ ((x &&& (2147483647 : Int32)) % b).toInt := by rw [e]; exact Int.emod_nonneg _ (by omega)
  have h2 : ((x &&& (2147483647 : Int32)) % b).toInt < b.toInt := by rw [e]; exact Int.emod_lt_of_pos _ hb
  exact ⟨_, by omega, own_nat h1⟩
set_option maxRecDepth 65536 in
set_option maxHeartbeats 40000000 in
theorem comes_1 {Post : Tables → Env → Array Value → State → Outcome → State → Prop} (hpost : ∀ tb e args s v u, (limb_1_1.after args s (.returned v) u = true ∧ limb_1_2.after args s (.returned v) u = true ∧ True) → FrameEnd s (.returned v) u (Jvm.fieldLocs frame_1_writes args s ++ Jvm.arrayLocs frame_1_arrays args s ++ Jvm.staticLocs frame_1_statics s) 0 0 → Post tb e args s (.returned v) u) :
    ArmFor flags0 classFile x code maxLocals ret World_1 tables_1 room_1 Calls_1 rest_1 Pre_1 Post := by
  intro l hfl _ _ p e ha hc hk s m args below hf hA hF happ hP
  obtain ⟨hcalls, hrest, hpre⟩ := hP
  obtain ⟨-, -, -, hnamed, -, -, -, hat⟩ := (Spec.applies_iff hf).mp happ
  obtain ⟨hg, hn⟩ := and_e (Cond.before_iff.mp (show (Jvm.Cond.and given_1 narrow_1).before args s = true from hpre))
  obtain ⟨g1, g2⟩ := and_e hg
  obtain ⟨g3, g4⟩ := and_e hn
  obtain ⟨g5, g6⟩ := and_e g4
  obtain ⟨g7, g8⟩ := and_e g6
  obtain ⟨g9, g10⟩ := and_e g8
  obtain ⟨g11, g12⟩ := and_e g10
  obtain ⟨g13, g14⟩ := and_e g12
  obtain ⟨g15, g16⟩ := and_e g14
  obtain ⟨g17, g18⟩ := and_e g16
  obtain ⟨g19, g20⟩ := and_e g18
  obtain ⟨g21, g22⟩ := and_e g20
  obtain ⟨g23, g24⟩ := and_e g22
  obtain ⟨g25, g26⟩ := and_e g24
  obtain ⟨g27, g28⟩ := and_e g26
  obtain ⟨g29, g30⟩ := and_e g28
  obtain ⟨g31, g32⟩ := and_e g30
  obtain ⟨g33, g34⟩ := and_e g32
  obtain ⟨g35, g36⟩ := and_e g34
  obtain ⟨g37, g38⟩ := and_e g36
  obtain ⟨g39, g40⟩ := and_e g38
  obtain ⟨g41, g42⟩ := and_e g40
  obtain ⟨g43, g44⟩ := and_e g42
  obtain ⟨g45, g46⟩ := and_e g44
  obtain ⟨g47, g48⟩ := and_e g46
  obtain ⟨g49, g50⟩ := and_e g48
  obtain ⟨g51, g52⟩ := and_e g50
  obtain ⟨g53, g54⟩ := and_e g52
  obtain ⟨g55, g56⟩ := and_e g54
  obtain ⟨g57, g58⟩ := and_e g56
  obtain ⟨g59, g60⟩ := and_e g58
  obtain ⟨g61, g62⟩ := and_e g60
  obtain ⟨g63, g64⟩ := and_e g62
  obtain ⟨g65, g66⟩ := and_e g64
  obtain ⟨g67, g68⟩ := and_e g66
  obtain ⟨g69, g70⟩ := and_e g68
  obtain ⟨g71, g72⟩ := and_e g70
  obtain ⟨g73, g74⟩ := and_e g72
  obtain ⟨g75, g76⟩ := and_e g74
  obtain ⟨g77, g78⟩ := and_e g76
  obtain ⟨g79, g80⟩ := and_e g78
  obtain ⟨g81, g82⟩ := and_e g80
  obtain ⟨g83, g84⟩ := and_e g82
  obtain ⟨g85, g86⟩ := and_e g84
  obtain ⟨g87, g88⟩ := and_e g86
  obtain ⟨g89, g90⟩ := and_e g88
  obtain ⟨w0, rfl⟩ : ∃ w0 : Value, args = #[w0] := by
    have hs : args.size = 1 := by simpa [Cond.value, given_1] using g1
    obtain ⟨L⟩ := args
    match L, hs with
    | [w0], _ => exact ⟨w0, rfl⟩
  have hw := fun d (hd : d ∈ tables_1) => atoms_spec (ws := Jvm.Cond.code x code maxLocals ret :: tables_1) hat d (List.mem_cons_of_mem _ hd)
  have hfit : Fit s := fun {y c} hc i hi => by
    obtain ⟨ha, rfl⟩ := Array.getElem?_eq_some_iff.mp hc
    have q := List.all_eq_true.mp ((Array.all_eq_true_iff_forall_mem.mp hF) _ (Array.getElem_mem ha)) i (List.mem_range.mpr hi)
    simpa [Array.getElem?_eq_getElem hi] using q
  obtain ⟨i0, ei0⟩ := is_v g2
  obtain rfl : w0 = (.int i0) := Option.some.inj ei0
  obtain ⟨a_PrimitiveType_BOOL, ev_PrimitiveType_BOOL⟩ := exa_v g3
  have E_PrimitiveType_BOOL := Exa.start ev_PrimitiveType_BOOL g3
  have S_PrimitiveType_BOOL := Sta.start ev_PrimitiveType_BOOL (Or.inr ⟨(hw _ (List.mem_of_getElem? (i := 6) rfl)), (hw _ (List.mem_of_getElem? (i := 7) rfl))⟩)
  have F_PrimitiveType_BOOL_min := Fld.start ((fld_at ev_PrimitiveType_BOOL).symm.trans (null_v g5))
  obtain ⟨a_PrimitiveType_S32, ev_PrimitiveType_S32⟩ := exa_v g7
  have E_PrimitiveType_S32 := Exa.start ev_PrimitiveType_S32 g7
  have S_PrimitiveType_S32 := Sta.start ev_PrimitiveType_S32 (Or.inr ⟨(hw _ (List.mem_of_getElem? (i := 6) rfl)), (hw _ (List.mem_of_getElem? (i := 16) rfl))⟩)
  obtain ⟨b_PrimitiveType_S32_min, fv_PrimitiveType_S32_min⟩ := exa_v g9
  have F_PrimitiveType_S32_min := Fld.start ((fld_at ev_PrimitiveType_S32).symm.trans fv_PrimitiveType_S32_min)
  obtain ⟨a_PrimitiveType_TIMESTAMP, ev_PrimitiveType_TIMESTAMP⟩ := exa_v g11
  have E_PrimitiveType_TIMESTAMP := Exa.start ev_PrimitiveType_TIMESTAMP g11
  have S_PrimitiveType_TIMESTAMP := Sta.start ev_PrimitiveType_TIMESTAMP (Or.inr ⟨(hw _ (List.mem_of_getElem? (i := 6) rfl)), (hw _ (List.mem_of_getElem? (i := 18) rfl))⟩)
  have F_PrimitiveType_S32_ordinal := Fld.start ((fld_at ev_PrimitiveType_S32).symm.trans (own_eqv g13 (Term.int_eval (3)) (Or.inr ⟨_, rfl⟩)))
  have F_PrimitiveType_TIMESTAMP_ordinal := Fld.start ((fld_at ev_PrimitiveType_TIMESTAMP).symm.trans (own_eqv g15 (Term.int_eval (16)) (Or.inr ⟨_, rfl⟩)))
  obtain ⟨a_PrimitiveType_U32, ev_PrimitiveType_U32⟩ := exa_v g17
  have E_PrimitiveType_U32 := Exa.start ev_PrimitiveType_U32 g17
  have S_PrimitiveType_U32 := Sta.start ev_PrimitiveType_U32 (Or.inr ⟨(hw _ (List.mem_of_getElem? (i := 6) rfl)), (hw _ (List.mem_of_getElem? (i := 20) rfl))⟩)
  obtain ⟨b_PrimitiveType_U32_min, fv_PrimitiveType_U32_min⟩ := exa_v g19
  have F_PrimitiveType_U32_min := Fld.start ((fld_at ev_PrimitiveType_U32).symm.trans fv_PrimitiveType_U32_min)
  have F_PrimitiveType_U32_ordinal := Fld.start ((fld_at ev_PrimitiveType_U32).symm.trans (own_eqv g21 (Term.int_eval (8)) (Or.inr ⟨_, rfl⟩)))
  obtain ⟨a_PrimitiveType_U64, ev_PrimitiveType_U64⟩ := exa_v g23
  have E_PrimitiveType_U64 := Exa.start ev_PrimitiveType_U64 g23
  have S_PrimitiveType_U64 := Sta.start ev_PrimitiveType_U64 (Or.inr ⟨(hw _ (List.mem_of_getElem? (i := 6) rfl)), (hw _ (List.mem_of_getElem? (i := 22) rfl))⟩)
  have fv_PrimitiveType_U64_min := own_eqv g25 fv_PrimitiveType_U32_min (Or.inl rfl)
  have F_PrimitiveType_U64_min := Fld.start ((fld_at ev_PrimitiveType_U64).symm.trans fv_PrimitiveType_U64_min)
  have F_PrimitiveType_U64_ordinal := Fld.start ((fld_at ev_PrimitiveType_U64).symm.trans (own_eqv g27 (Term.int_eval (9)) (Or.inr ⟨_, rfl⟩)))
  obtain ⟨a_PrimitiveType_U8, ev_PrimitiveType_U8⟩ := exa_v g29
  have E_PrimitiveType_U8 := Exa.start ev_PrimitiveType_U8 g29
  have S_PrimitiveType_U8 := Sta.start ev_PrimitiveType_U8 (Or.inr ⟨(hw _ (List.mem_of_getElem? (i := 6) rfl)), (hw _ (List.mem_of_getElem? (i := 24) rfl))⟩)
  have fv_PrimitiveType_U8_min := own_eqv g31 fv_PrimitiveType_U32_min (Or.inl rfl)
  have F_PrimitiveType_U8_min := Fld.start ((fld_at ev_PrimitiveType_U8).symm.trans fv_PrimitiveType_U8_min)
  have F_PrimitiveType_U8_ordinal := Fld.start ((fld_at ev_PrimitiveType_U8).symm.trans (own_eqv g33 (Term.int_eval (6)) (Or.inr ⟨_, rfl⟩)))
  obtain ⟨a_PrimitiveType_U16, ev_PrimitiveType_U16⟩ := exa_v g35
  have E_PrimitiveType_U16 := Exa.start ev_PrimitiveType_U16 g35
  have S_PrimitiveType_U16 := Sta.start ev_PrimitiveType_U16 (Or.inr ⟨(hw _ (List.mem_of_getElem? (i := 6) rfl)), (hw _ (List.mem_of_getElem? (i := 26) rfl))⟩)
  have fv_PrimitiveType_U16_min := own_eqv g37 fv_PrimitiveType_U32_min (Or.inl rfl)
  have F_PrimitiveType_U16_min := Fld.start ((fld_at ev_PrimitiveType_U16).symm.trans fv_PrimitiveType_U16_min)
  have F_PrimitiveType_U16_ordinal := Fld.start ((fld_at ev_PrimitiveType_U16).symm.trans (own_eqv g39 (Term.int_eval (7)) (Or.inr ⟨_, rfl⟩)))
  obtain ⟨a_PrimitiveType_S16, ev_PrimitiveType_S16⟩ := exa_v g41
  have E_PrimitiveType_S16 := Exa.start ev_PrimitiveType_S16 g41
  have S_PrimitiveType_S16 := Sta.start ev_PrimitiveType_S16 (Or.inr ⟨(hw _ (List.mem_of_getElem? (i := 6) rfl)), (hw _ (List.mem_of_getElem? (i := 28) rfl))⟩)
  obtain ⟨b_PrimitiveType_S16_min, fv_PrimitiveType_S16_min⟩ := exa_v g43
  have F_PrimitiveType_S16_min := Fld.start ((fld_at ev_PrimitiveType_S16).symm.trans fv_PrimitiveType_S16_min)
  have F_PrimitiveType_S16_ordinal := Fld.start ((fld_at ev_PrimitiveType_S16).symm.trans (own_eqv g45 (Term.int_eval (2)) (Or.inr ⟨_, rfl⟩)))
  obtain ⟨a_PrimitiveType_FLOAT32, ev_PrimitiveType_FLOAT32⟩ := exa_v g47
  have E_PrimitiveType_FLOAT32 := Exa.start ev_PrimitiveType_FLOAT32 g47
  have S_PrimitiveType_FLOAT32 := Sta.start ev_PrimitiveType_FLOAT32 (Or.inr ⟨(hw _ (List.mem_of_getElem? (i := 6) rfl)), (hw _ (List.mem_of_getElem? (i := 30) rfl))⟩)
  have F_PrimitiveType_FLOAT32_min := Fld.start ((fld_at ev_PrimitiveType_FLOAT32).symm.trans (null_v g49))
  obtain ⟨a_PrimitiveType_S8, ev_PrimitiveType_S8⟩ := exa_v g51
  have E_PrimitiveType_S8 := Exa.start ev_PrimitiveType_S8 g51
  have S_PrimitiveType_S8 := Sta.start ev_PrimitiveType_S8 (Or.inr ⟨(hw _ (List.mem_of_getElem? (i := 6) rfl)), (hw _ (List.mem_of_getElem? (i := 32) rfl))⟩)
  obtain ⟨b_PrimitiveType_S8_min, fv_PrimitiveType_S8_min⟩ := exa_v g53
  have F_PrimitiveType_S8_min := Fld.start ((fld_at ev_PrimitiveType_S8).symm.trans fv_PrimitiveType_S8_min)
  have F_PrimitiveType_S8_ordinal := Fld.start ((fld_at ev_PrimitiveType_S8).symm.trans (own_eqv g55 (Term.int_eval (1)) (Or.inr ⟨_, rfl⟩)))
  obtain ⟨a_PrimitiveType_CHAR, ev_PrimitiveType_CHAR⟩ := exa_v g57
  have E_PrimitiveType_CHAR := Exa.start ev_PrimitiveType_CHAR g57
  have S_PrimitiveType_CHAR := Sta.start ev_PrimitiveType_CHAR (Or.inr ⟨(hw _ (List.mem_of_getElem? (i := 6) rfl)), (hw _ (List.mem_of_getElem? (i := 34) rfl))⟩)
  have F_PrimitiveType_CHAR_min := Fld.start ((fld_at ev_PrimitiveType_CHAR).symm.trans (null_v g59))
  obtain ⟨a_PrimitiveType_S64, ev_PrimitiveType_S64⟩ := exa_v g61
  have E_PrimitiveType_S64 := Exa.start ev_PrimitiveType_S64 g61
  have S_PrimitiveType_S64 := Sta.start ev_PrimitiveType_S64 (Or.inr ⟨(hw _ (List.mem_of_getElem? (i := 6) rfl)), (hw _ (List.mem_of_getElem? (i := 36) rfl))⟩)
  obtain ⟨b_PrimitiveType_S64_min, fv_PrimitiveType_S64_min⟩ := exa_v g63
  have F_PrimitiveType_S64_min := Fld.start ((fld_at ev_PrimitiveType_S64).symm.trans fv_PrimitiveType_S64_min)
  have F_PrimitiveType_S64_ordinal := Fld.start ((fld_at ev_PrimitiveType_S64).symm.trans (own_eqv g65 (Term.int_eval (4)) (Or.inr ⟨_, rfl⟩)))
  obtain ⟨a_PrimitiveType_U128, ev_PrimitiveType_U128⟩ := exa_v g67
  have E_PrimitiveType_U128 := Exa.start ev_PrimitiveType_U128 g67
  have S_PrimitiveType_U128 := Sta.start ev_PrimitiveType_U128 (Or.inr ⟨(hw _ (List.mem_of_getElem? (i := 6) rfl)), (hw _ (List.mem_of_getElem? (i := 38) rfl))⟩)
  have fv_PrimitiveType_U128_min := own_eqv g69 fv_PrimitiveType_U32_min (Or.inl rfl)
  have F_PrimitiveType_U128_min := Fld.start ((fld_at ev_PrimitiveType_U128).symm.trans fv_PrimitiveType_U128_min)
  have F_PrimitiveType_U128_ordinal := Fld.start ((fld_at ev_PrimitiveType_U128).symm.trans (own_eqv g71 (Term.int_eval (10)) (Or.inr ⟨_, rfl⟩)))
  have fv_PrimitiveType_TIMESTAMP_min := own_eqv g73 fv_PrimitiveType_U32_min (Or.inl rfl)
  have F_PrimitiveType_TIMESTAMP_min := Fld.start ((fld_at ev_PrimitiveType_TIMESTAMP).symm.trans fv_PrimitiveType_TIMESTAMP_min)
  obtain ⟨a_PrimitiveType_BYTES, ev_PrimitiveType_BYTES⟩ := exa_v g75
  have E_PrimitiveType_BYTES := Exa.start ev_PrimitiveType_BYTES g75
  have S_PrimitiveType_BYTES := Sta.start ev_PrimitiveType_BYTES (Or.inr ⟨(hw _ (List.mem_of_getElem? (i := 6) rfl)), (hw _ (List.mem_of_getElem? (i := 41) rfl))⟩)
  have F_PrimitiveType_BYTES_min := Fld.start ((fld_at ev_PrimitiveType_BYTES).symm.trans (null_v g77))
  obtain ⟨a_PrimitiveType_S128, ev_PrimitiveType_S128⟩ := exa_v g79
  have E_PrimitiveType_S128 := Exa.start ev_PrimitiveType_S128 g79
  have S_PrimitiveType_S128 := Sta.start ev_PrimitiveType_S128 (Or.inr ⟨(hw _ (List.mem_of_getElem? (i := 6) rfl)), (hw _ (List.mem_of_getElem? (i := 43) rfl))⟩)
  obtain ⟨b_PrimitiveType_S128_min, fv_PrimitiveType_S128_min⟩ := exa_v g81
  have F_PrimitiveType_S128_min := Fld.start ((fld_at ev_PrimitiveType_S128).symm.trans fv_PrimitiveType_S128_min)
  have F_PrimitiveType_S128_ordinal := Fld.start ((fld_at ev_PrimitiveType_S128).symm.trans (own_eqv g83 (Term.int_eval (5)) (Or.inr ⟨_, rfl⟩)))
  obtain ⟨a_PrimitiveType_STRING, ev_PrimitiveType_STRING⟩ := exa_v g85
  have E_PrimitiveType_STRING := Exa.start ev_PrimitiveType_STRING g85
  have S_PrimitiveType_STRING := Sta.start ev_PrimitiveType_STRING (Or.inr ⟨(hw _ (List.mem_of_getElem? (i := 6) rfl)), (hw _ (List.mem_of_getElem? (i := 45) rfl))⟩)
  have F_PrimitiveType_STRING_min := Fld.start ((fld_at ev_PrimitiveType_STRING).symm.trans (null_v g87))
  obtain ⟨a_PrimitiveType_FLOAT64, ev_PrimitiveType_FLOAT64⟩ := exa_v g89
  have E_PrimitiveType_FLOAT64 := Exa.start ev_PrimitiveType_FLOAT64 g89
  have S_PrimitiveType_FLOAT64 := Sta.start ev_PrimitiveType_FLOAT64 (Or.inr ⟨(hw _ (List.mem_of_getElem? (i := 6) rfl)), (hw _ (List.mem_of_getElem? (i := 47) rfl))⟩)
  have F_PrimitiveType_FLOAT64_min := Fld.start ((fld_at ev_PrimitiveType_FLOAT64).symm.trans (null_v g90))
  obtain ⟨n, hn17, hi⟩ := own_rem i0 17 (by decide) 17 rfl
  have hE := own_all17 (P := fun n => Exa s s.heap ((fun n => [a_PrimitiveType_BOOL, a_PrimitiveType_S8, a_PrimitiveType_S16, a_PrimitiveType_S32, a_PrimitiveType_S64, a_PrimitiveType_S128, a_PrimitiveType_U8, a_PrimitiveType_U16, a_PrimitiveType_U32, a_PrimitiveType_U64, a_PrimitiveType_U128, a_PrimitiveType_FLOAT32, a_PrimitiveType_FLOAT64, a_PrimitiveType_CHAR, a_PrimitiveType_STRING, a_PrimitiveType_BYTES, a_PrimitiveType_TIMESTAMP].getD n 0) n) "com/example/litera/litera/PrimitiveType") E_PrimitiveType_BOOL E_PrimitiveType_S8 E_PrimitiveType_S16 E_PrimitiveType_S32 E_PrimitiveType_S64 E_PrimitiveType_S128 E_PrimitiveType_U8 E_PrimitiveType_U16 E_PrimitiveType_U32 E_PrimitiveType_U64 E_PrimitiveType_U128 E_PrimitiveType_FLOAT32 E_PrimitiveType_FLOAT64 E_PrimitiveType_CHAR E_PrimitiveType_STRING E_PrimitiveType_BYTES E_PrimitiveType_TIMESTAMP
  have hF := own_all17 (P := fun n => Fld s s.heap ((fun n => [a_PrimitiveType_BOOL, a_PrimitiveType_S8, a_PrimitiveType_S16, a_PrimitiveType_S32, a_PrimitiveType_S64, a_PrimitiveType_S128, a_PrimitiveType_U8, a_PrimitiveType_U16, a_PrimitiveType_U32, a_PrimitiveType_U64, a_PrimitiveType_U128, a_PrimitiveType_FLOAT32, a_PrimitiveType_FLOAT64, a_PrimitiveType_CHAR, a_PrimitiveType_STRING, a_PrimitiveType_BYTES, a_PrimitiveType_TIMESTAMP].getD n 0) n) "com/example/litera/litera/PrimitiveType" "min" "Ljava/math/BigInteger;" ((fun n => ([.null, (.ref b_PrimitiveType_S8_min), (.ref b_PrimitiveType_S16_min), (.ref b_PrimitiveType_S32_min), (.ref b_PrimitiveType_S64_min), (.ref b_PrimitiveType_S128_min), (.ref b_PrimitiveType_U32_min), (.ref b_PrimitiveType_U32_min), (.ref b_PrimitiveType_U32_min), (.ref b_PrimitiveType_U32_min), (.ref b_PrimitiveType_U32_min), .null, .null, .null, .null, .null, (.ref b_PrimitiveType_U32_min)] : List Value).getD n .null) n)) F_PrimitiveType_BOOL_min F_PrimitiveType_S8_min F_PrimitiveType_S16_min F_PrimitiveType_S32_min F_PrimitiveType_S64_min F_PrimitiveType_S128_min F_PrimitiveType_U8_min F_PrimitiveType_U16_min F_PrimitiveType_U32_min F_PrimitiveType_U64_min F_PrimitiveType_U128_min F_PrimitiveType_FLOAT32_min F_PrimitiveType_FLOAT64_min F_PrimitiveType_CHAR_min F_PrimitiveType_STRING_min F_PrimitiveType_BYTES_min F_PrimitiveType_TIMESTAMP_min
  have hR := own_all17 (P := fun n => ((fun n => ([.null, (.ref b_PrimitiveType_S8_min), (.ref b_PrimitiveType_S16_min), (.ref b_PrimitiveType_S32_min), (.ref b_PrimitiveType_S64_min), (.ref b_PrimitiveType_S128_min), (.ref b_PrimitiveType_U32_min), (.ref b_PrimitiveType_U32_min), (.ref b_PrimitiveType_U32_min), (.ref b_PrimitiveType_U32_min), (.ref b_PrimitiveType_U32_min), .null, .null, .null, .null, .null, (.ref b_PrimitiveType_U32_min)] : List Value).getD n .null) n).isRef = true) rfl rfl rfl rfl rfl rfl rfl rfl rfl rfl rfl rfl rfl rfl rfl rfl rfl
  have hM := own_all17 (P := fun n => n = 0 ∨ 11 ≤ n → n ≤ 15 → (fun n => ([.null, (.ref b_PrimitiveType_S8_min), (.ref b_PrimitiveType_S16_min), (.ref b_PrimitiveType_S32_min), (.ref b_PrimitiveType_S64_min), (.ref b_PrimitiveType_S128_min), (.ref b_PrimitiveType_U32_min), (.ref b_PrimitiveType_U32_min), (.ref b_PrimitiveType_U32_min), (.ref b_PrimitiveType_U32_min), (.ref b_PrimitiveType_U32_min), .null, .null, .null, .null, .null, (.ref b_PrimitiveType_U32_min)] : List Value).getD n .null) n = .null) (fun _ _ => rfl) (by omega) (by omega) (by omega) (by omega) (by omega) (by omega) (by omega) (by omega) (by omega) (by omega) (fun _ _ => rfl) (fun _ _ => rfl) (fun _ _ => rfl) (fun _ _ => rfl) (fun _ _ => rfl) (by omega)
  have hA := own_all17 (P := fun n => 1 ≤ n → n ≤ 10 → (fun n => ([.null, (.ref b_PrimitiveType_S8_min), (.ref b_PrimitiveType_S16_min), (.ref b_PrimitiveType_S32_min), (.ref b_PrimitiveType_S64_min), (.ref b_PrimitiveType_S128_min), (.ref b_PrimitiveType_U32_min), (.ref b_PrimitiveType_U32_min), (.ref b_PrimitiveType_U32_min), (.ref b_PrimitiveType_U32_min), (.ref b_PrimitiveType_U32_min), .null, .null, .null, .null, .null, (.ref b_PrimitiveType_U32_min)] : List Value).getD n .null) n ≠ .null ∧ (fun n => [a_PrimitiveType_BOOL, a_PrimitiveType_S8, a_PrimitiveType_S16, a_PrimitiveType_S32, a_PrimitiveType_S64, a_PrimitiveType_S128, a_PrimitiveType_U8, a_PrimitiveType_U16, a_PrimitiveType_U32, a_PrimitiveType_U64, a_PrimitiveType_U128, a_PrimitiveType_FLOAT32, a_PrimitiveType_FLOAT64, a_PrimitiveType_CHAR, a_PrimitiveType_STRING, a_PrimitiveType_BYTES, a_PrimitiveType_TIMESTAMP].getD n 0) n ≠ (fun n => [a_PrimitiveType_BOOL, a_PrimitiveType_S8, a_PrimitiveType_S16, a_PrimitiveType_S32, a_PrimitiveType_S64, a_PrimitiveType_S128, a_PrimitiveType_U8, a_PrimitiveType_U16, a_PrimitiveType_U32, a_PrimitiveType_U64, a_PrimitiveType_U128, a_PrimitiveType_FLOAT32, a_PrimitiveType_FLOAT64, a_PrimitiveType_CHAR, a_PrimitiveType_STRING, a_PrimitiveType_BYTES, a_PrimitiveType_TIMESTAMP].getD n 0) 16) (by omega) (fun _ _ => ⟨nofun, Fld.ne F_PrimitiveType_S8_ordinal F_PrimitiveType_TIMESTAMP_ordinal (by simp)⟩) (fun _ _ => ⟨nofun, Fld.ne F_PrimitiveType_S16_ordinal F_PrimitiveType_TIMESTAMP_ordinal (by simp)⟩) (fun _ _ => ⟨nofun, Fld.ne F_PrimitiveType_S32_ordinal F_PrimitiveType_TIMESTAMP_ordinal (by simp)⟩) (fun _ _ => ⟨nofun, Fld.ne F_PrimitiveType_S64_ordinal F_PrimitiveType_TIMESTAMP_ordinal (by simp)⟩) (fun _ _ => ⟨nofun, Fld.ne F_PrimitiveType_S128_ordinal F_PrimitiveType_TIMESTAMP_ordinal (by simp)⟩) (fun _ _ => ⟨nofun, Fld.ne F_PrimitiveType_U8_ordinal F_PrimitiveType_TIMESTAMP_ordinal (by simp)⟩) (fun _ _ => ⟨nofun, Fld.ne F_PrimitiveType_U16_ordinal F_PrimitiveType_TIMESTAMP_ordinal (by simp)⟩) (fun _ _ => ⟨nofun, Fld.ne F_PrimitiveType_U32_ordinal F_PrimitiveType_TIMESTAMP_ordinal (by simp)⟩) (fun _ _ => ⟨nofun, Fld.ne F_PrimitiveType_U64_ordinal F_PrimitiveType_TIMESTAMP_ordinal (by simp)⟩) (fun _ _ => ⟨nofun, Fld.ne F_PrimitiveType_U128_ordinal F_PrimitiveType_TIMESTAMP_ordinal (by simp)⟩) (by omega) (by omega) (by omega) (by omega) (by omega) (by omega)
  obtain ⟨n, o, h1, h2, h3, _, L, rfl, ⟨rfl, rfl, -⟩, hq⟩ := rm0 l s _ hw tables_1 i0 (fun n => [a_PrimitiveType_BOOL, a_PrimitiveType_S8, a_PrimitiveType_S16, a_PrimitiveType_S32, a_PrimitiveType_S64, a_PrimitiveType_S128, a_PrimitiveType_U8, a_PrimitiveType_U16, a_PrimitiveType_U32, a_PrimitiveType_U64, a_PrimitiveType_U128, a_PrimitiveType_FLOAT32, a_PrimitiveType_FLOAT64, a_PrimitiveType_CHAR, a_PrimitiveType_STRING, a_PrimitiveType_BYTES, a_PrimitiveType_TIMESTAMP].getD n 0) (fun n => ([.null, (.ref b_PrimitiveType_S8_min), (.ref b_PrimitiveType_S16_min), (.ref b_PrimitiveType_S32_min), (.ref b_PrimitiveType_S64_min), (.ref b_PrimitiveType_S128_min), (.ref b_PrimitiveType_U32_min), (.ref b_PrimitiveType_U32_min), (.ref b_PrimitiveType_U32_min), (.ref b_PrimitiveType_U32_min), (.ref b_PrimitiveType_U32_min), .null, .null, .null, .null, .null, (.ref b_PrimitiveType_U32_min)] : List Value).getD n .null) n s.heap S_PrimitiveType_BOOL S_PrimitiveType_S8 S_PrimitiveType_S16 S_PrimitiveType_S32 S_PrimitiveType_S64 S_PrimitiveType_S128 S_PrimitiveType_U8 S_PrimitiveType_U16 S_PrimitiveType_U32 S_PrimitiveType_U64 S_PrimitiveType_U128 S_PrimitiveType_FLOAT32 S_PrimitiveType_FLOAT64 S_PrimitiveType_CHAR S_PrimitiveType_STRING S_PrimitiveType_BYTES S_PrimitiveType_TIMESTAMP hM hA (hE n hn17) (hF n hn17) (hR n hn17) hn17 hi p e ha hc hk s m _ below hf ((Spec.applies_iff_loose hf).mp happ).1 ⟨rfl, State.Warmed39.refl s, rfl⟩ trivial
  refine ⟨n, _, h1, h2, h3, hpost _ _ _ _ _ _ ⟨Cond.after_iff.mpr rfl, Cond.after_iff.mpr (eq_i res_at (Term.int_eval (1)) (congrArg Value.int (own_one _))), trivial⟩ ⟨hq.1, hq.2.1, (hq.2.2.sift fun y hy => nomatch hy).mono (by decide) (by decide)⟩⟩
theorem main_1_1 : Claimed_1_1 := comes_1 fun _ _ _ _ _ _ h hF => ⟨h.1, hF⟩
theorem main_1_2 : Claimed_1_2 := comes_1 fun _ _ _ _ _ _ h hF => ⟨h.2.1, hF⟩
end Jvm.Pilot.@@N@@
namespace Jvm.Pilot.@@N@@
open Jvm Jvm.ClassFile Sem Op Lib Jvm.Free Jvm.Stand Jvm.Pilot.@@N@@.Jvm.D
/-! MADE BY PROGRAM (witnessworld.py) out of the Statement's table words and the real class files: 15 classes; the members and pool entries that the words name. The judged class is class 1, her method 2. -/
namespace start1
open Jvm.ClassFile
def u (s : String) : CpInfo := .utf8 (stringToUtf16 s)
/-- a pool by its gaps: so many unusable entries, then the entry; so many at the end -/
def gap : Nat → List CpInfo → List CpInfo
  | 0, r => r
  | n + 1, r => .unusable :: gap n r
def poolList (es : List (Nat × CpInfo)) (last : Nat) : List CpInfo := es.foldr (fun e r => gap e.1 (e.2 :: r)) (gap last [])
def pool (es : List (Nat × CpInfo)) (last : Nat) : Array CpInfo := ⟨poolList es last⟩
def fileOf (pool : Array CpInfo) (this : Nat) (attrs : Array Attribute := #[]) (ms : Array MethodInfo := #[]) (fl : Nat := 33) (sup : Nat := 0) (ifs : Array Nat := #[]) (fds : Array FieldInfo := #[]) : ClassFile where
  minorVersion := 0
  majorVersion := 65
  constantPool := pool
  accessFlags := fl
  thisClass := this
  superClass := sup
  interfaces := ifs
  fields := fds
  methods := ms
  attributes := attrs
def plain (name : String) (sup : Option ClassId) : Class where
  name := name
  kind := .ordinary
  loader := none
  accessFlags := 33
  super := sup
  interfaces := #[]
  cf := none
  fields := #[]
  methods := #[]
  instanceTypes := #[]
  staticTypes := #[]
  resolved := #[]
  callSites := []
  init := .initialized
  statics := none
  mirror := none

def pool0 : Array CpInfo := pool [(5, u "<init>"), (0, u "()V"), (1, .class_ 10), (1, u "java/lang/Object")] 113

def k0m0 : Method := { name := "<init>", desc := "()V", sig := { parameters := [], returnType := none }, accessFlags := 1, code := none }
/-- java/lang/Object -/
def k0 : Class := { plain "java/lang/Object" none with
  accessFlags := 33
  interfaces := #[]
  cf := some (fileOf pool0 8 #[] #[{ accessFlags := 1, nameIndex := 5, descriptorIndex := 6, attributes := #[] }] 33 0 #[] #[])
  fields := #[]
  methods := #[k0m0]
  instanceTypes := #[]
  staticTypes := #[]
  resolved := Array.replicate 124 none
  statics := none }

def pool1 : Array CpInfo := pool [(2, .class_ 4), (1, u "java/lang/Object"), (0, u "<init>"), (0, u "()V"), (0, .fieldref 8 9), (0, .class_ 10), (0, .nameAndType 11 12), (0, u "com/example/litera/litera/PrimitiveType"), (0, u "BOOL"), (0, u "Lcom/example/litera/litera/PrimitiveType;"), (0, .fieldref 8 14), (0, .nameAndType 15 12), (0, u "S8"), (0, .fieldref 8 17), (0, .nameAndType 18 12), (0, u "S16"), (0, .fieldref 8 20), (0, .nameAndType 21 12), (0, u "S32"), (0, .fieldref 8 23), (0, .nameAndType 24 12), (0, u "S64"), (0, .fieldref 8 26), (0, .nameAndType 27 12), (0, u "S128"), (0, .fieldref 8 29), (0, .nameAndType 30 12), (0, u "U8"), (0, .fieldref 8 32), (0, .nameAndType 33 12), (0, u "U16"), (0, .fieldref 8 35), (0, .nameAndType 36 12), (0, u "U32"), (0, .fieldref 8 38), (0, .nameAndType 39 12), (0, u "U64"), (0, .fieldref 8 41), (0, .nameAndType 42 12), (0, u "U128"), (0, .fieldref 8 44), (0, .nameAndType 45 12), (0, u "FLOAT32"), (0, .fieldref 8 47), (0, .nameAndType 48 12), (0, u "FLOAT64"), (0, .fieldref 8 50), (0, .nameAndType 51 12), (0, u "CHAR"), (0, .fieldref 8 53), (0, .nameAndType 54 12), (0, u "STRING"), (0, .fieldref 8 56), (0, .nameAndType 57 12), (0, u "BYTES"), (0, .fieldref 8 59), (0, .nameAndType 60 12), (0, u "TIMESTAMP"), (0, .integer 2147483647), (0, .methodref 63 64), (0, .class_ 65), (0, .nameAndType 66 67), (0, u "com/example/litera/litera/PrimitiveTypeIsIntegerPinLaw"), (0, u "pick"), (0, u "(I)Lcom/example/litera/litera/PrimitiveType;"), (0, .methodref 8 69), (0, .nameAndType 70 71), (0, u "isInteger"), (0, u "()Z"), (3, u "law"), (0, u "(I)Z")] 2

def k1m0 : Method := { name := "<init>", desc := "()V", sig := { parameters := [], returnType := none }, accessFlags := 2, code := none }
def k1c1 : Code := { maxStack := 2, maxLocals := 1, code := method_2_code, exceptionTable := #[], attributes := #[] }
def k1m1 : Method := { name := "pick", desc := "(I)Lcom/example/litera/litera/PrimitiveType;", sig := { parameters := [.int], returnType := some (.object "com/example/litera/litera/PrimitiveType") }, accessFlags := 10, code := some k1c1 }
def k1c2 : Code := { maxStack := 2, maxLocals := 4, code := code, exceptionTable := #[], attributes := #[] }
def k1m2 : Method := { name := "law", desc := "(I)Z", sig := { parameters := [.int], returnType := some .boolean }, accessFlags := 9, code := some k1c2 }
/-- com/example/litera/litera/PrimitiveTypeIsIntegerPinLaw -/
def k1 : Class := { plain "com/example/litera/litera/PrimitiveTypeIsIntegerPinLaw" (some 0) with
  accessFlags := 49
  interfaces := #[]
  cf := some (fileOf pool1 63 #[] #[{ accessFlags := 2, nameIndex := 5, descriptorIndex := 6, attributes := #[] }, { accessFlags := 10, nameIndex := 66, descriptorIndex := 67, attributes := #[] }, { accessFlags := 9, nameIndex := 75, descriptorIndex := 76, attributes := #[] }] 49 2 #[] #[])
  fields := #[]
  methods := #[k1m0, k1m1, k1m2]
  instanceTypes := #[]
  staticTypes := #[]
  resolved := Array.replicate 79 none
  statics := none }

def pool2 : Array CpInfo := pool [(1, .class_ 2), (0, u "java/lang/constant/Constable"), (0, .class_ 4), (0, u "java/lang/Object")] 6

/-- java/lang/constant/Constable -/
def k2 : Class := { plain "java/lang/constant/Constable" (some 0) with
  accessFlags := 1537
  interfaces := #[]
  cf := some (fileOf pool2 1 #[] #[] 1537 3 #[] #[])
  fields := #[]
  methods := #[]
  instanceTypes := #[]
  staticTypes := #[]
  resolved := Array.replicate 11 none
  statics := none }

def pool3 : Array CpInfo := pool [(1, .class_ 2), (0, u "java/lang/Comparable"), (0, .class_ 4), (0, u "java/lang/Object")] 7

/-- java/lang/Comparable -/
def k3 : Class := { plain "java/lang/Comparable" (some 0) with
  accessFlags := 1537
  interfaces := #[]
  cf := some (fileOf pool3 1 #[] #[] 1537 3 #[] #[])
  fields := #[]
  methods := #[]
  instanceTypes := #[]
  staticTypes := #[]
  resolved := Array.replicate 12 none
  statics := none }

def pool4 : Array CpInfo := pool [(1, .class_ 2), (0, u "java/io/Serializable"), (0, .class_ 4), (0, u "java/lang/Object")] 2

/-- java/io/Serializable -/
def k4 : Class := { plain "java/io/Serializable" (some 0) with
  accessFlags := 1537
  interfaces := #[]
  cf := some (fileOf pool4 1 #[] #[] 1537 3 #[] #[])
  fields := #[]
  methods := #[]
  instanceTypes := #[]
  staticTypes := #[]
  resolved := Array.replicate 7 none
  statics := none }

def pool5 : Array CpInfo := pool [(2, .class_ 4), (1, u "java/lang/Enum"), (0, u "name"), (0, u "Ljava/lang/String;"), (2, u "ordinal"), (0, u "I"), (1, .class_ 14), (1, u "java/lang/Object"), (4, u "hash"), (86, .class_ 108), (1, u "java/lang/Enum$EnumDesc"), (2, .class_ 112), (0, u "java/lang/constant/Constable"), (0, .class_ 114), (0, u "java/lang/Comparable"), (0, .class_ 116), (0, u "java/io/Serializable")] 87

/-- java/lang/Enum -/
def k5 : Class := { plain "java/lang/Enum" (some 0) with
  accessFlags := 1057
  interfaces := #[2, 3, 4]
  cf := some (fileOf pool5 2 #[.nestMembers #[106]] #[] 1057 12 #[111, 113, 115] #[{ accessFlags := 18, nameIndex := 5, descriptorIndex := 6, attributes := #[] }, { accessFlags := 18, nameIndex := 9, descriptorIndex := 10, attributes := #[] }, { accessFlags := 2, nameIndex := 19, descriptorIndex := 10, attributes := #[] }])
  fields := #[{ name := "name", type := (.object "java/lang/String"), accessFlags := 18, slot := 0, constantValue := 0 }, { name := "ordinal", type := .int, accessFlags := 18, slot := 1, constantValue := 0 }, { name := "hash", type := .int, accessFlags := 2, slot := 2, constantValue := 0 }]
  methods := #[]
  instanceTypes := #[(.object "java/lang/String"), .int, .int]
  staticTypes := #[]
  resolved := Array.replicate 204 none
  statics := none }

def pool6 : Array CpInfo := pool [(1, .class_ 2), (0, u "com/example/litera/litera/Type"), (0, .class_ 4), (0, u "java/lang/Object")] 25

/-- com/example/litera/litera/Type -/
def k6 : Class := { plain "com/example/litera/litera/Type" (some 0) with
  accessFlags := 1537
  interfaces := #[]
  cf := some (fileOf pool6 1 #[] #[] 1537 3 #[] #[])
  fields := #[]
  methods := #[]
  instanceTypes := #[]
  staticTypes := #[]
  resolved := Array.replicate 30 none
  statics := none }

def pool7 : Array CpInfo := pool [(1, .class_ 2), (0, u "com/example/litera/litera/PrimitiveType"), (2, u "BOOL"), (0, u "Lcom/example/litera/litera/PrimitiveType;"), (2, u "S8"), (2, u "S16"), (2, u "S32"), (2, u "S64"), (2, u "S128"), (2, u "U8"), (2, u "U16"), (2, u "U32"), (2, u "U64"), (2, u "U128"), (2, u "FLOAT32"), (2, u "FLOAT64"), (2, u "CHAR"), (2, u "STRING"), (2, u "BYTES"), (0, .fieldref 1 53), (0, .nameAndType 54 6), (0, u "TIMESTAMP"), (2, u "$VALUES"), (0, u "[Lcom/example/litera/litera/PrimitiveType;"), (6, .class_ 67), (1, u "java/lang/Enum"), (11, u "Ljava/math/BigInteger;"), (20, u "typeName"), (0, u "Ljava/lang/String;"), (2, u "alias"), (0, .fieldref 1 106), (0, .nameAndType 107 79), (0, u "min"), (2, u "max"), (12, u "maxDigits"), (0, u "I"), (2, u "format"), (0, u "Lcom/example/litera/litera/FloatFormat;"), (143, .class_ 273), (0, u "com/example/litera/litera/Type"), (12, u "isInteger"), (0, u "()Z")] 43

def k7c0 : Code := { maxStack := 2, maxLocals := 1, code := prog_32_method_8_code, exceptionTable := #[], attributes := #[] }
def k7m0 : Method := { name := "isInteger", desc := "()Z", sig := { parameters := [], returnType := some .boolean }, accessFlags := 1, code := some k7c0 }
/-- com/example/litera/litera/PrimitiveType -/
def k7 : Class := { plain "com/example/litera/litera/PrimitiveType" (some 5) with
  accessFlags := 16433
  interfaces := #[6]
  cf := some (fileOf pool7 1 #[] #[{ accessFlags := 1, nameIndex := 286, descriptorIndex := 287, attributes := #[] }] 16433 65 #[272] #[{ accessFlags := 16409, nameIndex := 5, descriptorIndex := 6, attributes := #[] }, { accessFlags := 16409, nameIndex := 9, descriptorIndex := 6, attributes := #[] }, { accessFlags := 16409, nameIndex := 12, descriptorIndex := 6, attributes := #[] }, { accessFlags := 16409, nameIndex := 15, descriptorIndex := 6, attributes := #[] }, { accessFlags := 16409, nameIndex := 18, descriptorIndex := 6, attributes := #[] }, { accessFlags := 16409, nameIndex := 21, descriptorIndex := 6, attributes := #[] }, { accessFlags := 16409, nameIndex := 24, descriptorIndex := 6, attributes := #[] }, { accessFlags := 16409, nameIndex := 27, descriptorIndex := 6, attributes := #[] }, { accessFlags := 16409, nameIndex := 30, descriptorIndex := 6, attributes := #[] }, { accessFlags := 16409, nameIndex := 33, descriptorIndex := 6, attributes := #[] }, { accessFlags := 16409, nameIndex := 36, descriptorIndex := 6, attributes := #[] }, { accessFlags := 16409, nameIndex := 39, descriptorIndex := 6, attributes := #[] }, { accessFlags := 16409, nameIndex := 42, descriptorIndex := 6, attributes := #[] }, { accessFlags := 16409, nameIndex := 45, descriptorIndex := 6, attributes := #[] }, { accessFlags := 16409, nameIndex := 48, descriptorIndex := 6, attributes := #[] }, { accessFlags := 16409, nameIndex := 51, descriptorIndex := 6, attributes := #[] }, { accessFlags := 16409, nameIndex := 54, descriptorIndex := 6, attributes := #[] }, { accessFlags := 18, nameIndex := 100, descriptorIndex := 101, attributes := #[] }, { accessFlags := 18, nameIndex := 104, descriptorIndex := 101, attributes := #[] }, { accessFlags := 18, nameIndex := 107, descriptorIndex := 79, attributes := #[] }, { accessFlags := 18, nameIndex := 110, descriptorIndex := 79, attributes := #[] }, { accessFlags := 18, nameIndex := 123, descriptorIndex := 124, attributes := #[] }, { accessFlags := 18, nameIndex := 127, descriptorIndex := 128, attributes := #[] }, { accessFlags := 4122, nameIndex := 57, descriptorIndex := 58, attributes := #[] }])
  fields := #[{ name := "BOOL", type := (.object "com/example/litera/litera/PrimitiveType"), accessFlags := 16409, slot := 0, constantValue := 0 }, { name := "S8", type := (.object "com/example/litera/litera/PrimitiveType"), accessFlags := 16409, slot := 1, constantValue := 0 }, { name := "S16", type := (.object "com/example/litera/litera/PrimitiveType"), accessFlags := 16409, slot := 2, constantValue := 0 }, { name := "S32", type := (.object "com/example/litera/litera/PrimitiveType"), accessFlags := 16409, slot := 3, constantValue := 0 }, { name := "S64", type := (.object "com/example/litera/litera/PrimitiveType"), accessFlags := 16409, slot := 4, constantValue := 0 }, { name := "S128", type := (.object "com/example/litera/litera/PrimitiveType"), accessFlags := 16409, slot := 5, constantValue := 0 }, { name := "U8", type := (.object "com/example/litera/litera/PrimitiveType"), accessFlags := 16409, slot := 6, constantValue := 0 }, { name := "U16", type := (.object "com/example/litera/litera/PrimitiveType"), accessFlags := 16409, slot := 7, constantValue := 0 }, { name := "U32", type := (.object "com/example/litera/litera/PrimitiveType"), accessFlags := 16409, slot := 8, constantValue := 0 }, { name := "U64", type := (.object "com/example/litera/litera/PrimitiveType"), accessFlags := 16409, slot := 9, constantValue := 0 }, { name := "U128", type := (.object "com/example/litera/litera/PrimitiveType"), accessFlags := 16409, slot := 10, constantValue := 0 }, { name := "FLOAT32", type := (.object "com/example/litera/litera/PrimitiveType"), accessFlags := 16409, slot := 11, constantValue := 0 }, { name := "FLOAT64", type := (.object "com/example/litera/litera/PrimitiveType"), accessFlags := 16409, slot := 12, constantValue := 0 }, { name := "CHAR", type := (.object "com/example/litera/litera/PrimitiveType"), accessFlags := 16409, slot := 13, constantValue := 0 }, { name := "STRING", type := (.object "com/example/litera/litera/PrimitiveType"), accessFlags := 16409, slot := 14, constantValue := 0 }, { name := "BYTES", type := (.object "com/example/litera/litera/PrimitiveType"), accessFlags := 16409, slot := 15, constantValue := 0 }, { name := "TIMESTAMP", type := (.object "com/example/litera/litera/PrimitiveType"), accessFlags := 16409, slot := 16, constantValue := 0 }, { name := "typeName", type := (.object "java/lang/String"), accessFlags := 18, slot := 3, constantValue := 0 }, { name := "alias", type := (.object "java/lang/String"), accessFlags := 18, slot := 4, constantValue := 0 }, { name := "min", type := (.object "java/math/BigInteger"), accessFlags := 18, slot := 5, constantValue := 0 }, { name := "max", type := (.object "java/math/BigInteger"), accessFlags := 18, slot := 6, constantValue := 0 }, { name := "maxDigits", type := .int, accessFlags := 18, slot := 7, constantValue := 0 }, { name := "format", type := (.object "com/example/litera/litera/FloatFormat"), accessFlags := 18, slot := 8, constantValue := 0 }, { name := "$VALUES", type := (.array (.object "com/example/litera/litera/PrimitiveType")), accessFlags := 4122, slot := 17, constantValue := 0 }]
  methods := #[k7m0]
  instanceTypes := #[(.object "java/lang/String"), .int, .int, (.object "java/lang/String"), (.object "java/lang/String"), (.object "java/math/BigInteger"), (.object "java/math/BigInteger"), .int, (.object "com/example/litera/litera/FloatFormat")]
  staticTypes := #[(.object "com/example/litera/litera/PrimitiveType"), (.object "com/example/litera/litera/PrimitiveType"), (.object "com/example/litera/litera/PrimitiveType"), (.object "com/example/litera/litera/PrimitiveType"), (.object "com/example/litera/litera/PrimitiveType"), (.object "com/example/litera/litera/PrimitiveType"), (.object "com/example/litera/litera/PrimitiveType"), (.object "com/example/litera/litera/PrimitiveType"), (.object "com/example/litera/litera/PrimitiveType"), (.object "com/example/litera/litera/PrimitiveType"), (.object "com/example/litera/litera/PrimitiveType"), (.object "com/example/litera/litera/PrimitiveType"), (.object "com/example/litera/litera/PrimitiveType"), (.object "com/example/litera/litera/PrimitiveType"), (.object "com/example/litera/litera/PrimitiveType"), (.object "com/example/litera/litera/PrimitiveType"), (.object "com/example/litera/litera/PrimitiveType"), (.array (.object "com/example/litera/litera/PrimitiveType"))]
  resolved := Array.replicate 331 none
  statics := some 0 }

def pool8 : Array CpInfo := pool [(2, .class_ 4), (1, u "java/lang/Object"), (0, u "<init>"), (0, u "()V"), (1, .class_ 10), (1, u "java/lang/Number"), (2, .class_ 14), (0, u "java/io/Serializable"), (0, u "serialVersionUID"), (0, u "J")] 20

def k8m0 : Method := { name := "<init>", desc := "()V", sig := { parameters := [], returnType := none }, accessFlags := 1, code := none }
/-- java/lang/Number -/
def k8 : Class := { plain "java/lang/Number" (some 0) with
  accessFlags := 1057
  interfaces := #[4]
  cf := some (fileOf pool8 8 #[] #[{ accessFlags := 1, nameIndex := 5, descriptorIndex := 6, attributes := #[] }] 1057 2 #[13] #[{ accessFlags := 26, nameIndex := 15, descriptorIndex := 16, attributes := #[] }])
  fields := #[{ name := "serialVersionUID", type := .long, accessFlags := 26, slot := 0, constantValue := 0 }]
  methods := #[k8m0]
  instanceTypes := #[]
  staticTypes := #[.long]
  resolved := Array.replicate 37 none
  statics := none }

def pool9 : Array CpInfo := pool [(4, .class_ 6), (1, u "java/lang/Number"), (16, .class_ 25), (1, u "java/math/BigInteger"), (0, u "ZERO"), (0, u "Ljava/math/BigInteger;"), (2, u "mag"), (0, u "[I"), (2, u "signum"), (0, u "I"), (59, u "bitsPerDigit"), (0, u "[J"), (9, u "digitsPerInt"), (12, u "intRadix"), (60, u "SMALL_PRIME_PRODUCT"), (79, u "ONE"), (6, u "TWO"), (43, u "$assertionsDisabled"), (0, u "Z"), (36, u "posConst"), (0, u "[Ljava/math/BigInteger;"), (4, u "negConst"), (116, .class_ 474), (1, u "java/math/BigInteger$RecursiveOp"), (106, u "NEGATIVE_ONE"), (91, u "bnExpModThreshTable"), (72, u "lowestSetBitPlusTwo"), (2, u "bitLengthPlusOne"), (2, u "bitCountPlusOne"), (6, u "LOG_TWO"), (0, u "D"), (2, u "logCache"), (0, u "[D"), (13, u "NUM_ZEROS"), (2, u "ZEROS"), (0, u "Ljava/lang/String;"), (9, u "longRadix"), (5, u "digitsPerLong"), (22, u "powerCache"), (0, u "[[Ljava/math/BigInteger;"), (45, u "firstNonzeroIntNumPlusTwo"), (38, .class_ 909), (1, u "java/math/BigInteger$UnsafeHolder"), (141, u "TEN"), (106, u "serialPersistentFields"), (0, u "[Ljava/io/ObjectStreamField;"), (0, .class_ 1161), (0, u "java/lang/Comparable"), (0, u "LONG_MASK"), (0, u "J"), (1, u "MAX_MAG_LENGTH"), (0, u "PRIME_SEARCH_BIT_LENGTH_LIMIT"), (1, u "KARATSUBA_THRESHOLD"), (1, u "TOOM_COOK_THRESHOLD"), (1, u "KARATSUBA_SQUARE_THRESHOLD"), (1, u "TOOM_COOK_SQUARE_THRESHOLD"), (1, u "BURNIKEL_ZIEGLER_THRESHOLD"), (0, u "BURNIKEL_ZIEGLER_OFFSET"), (1, u "SCHOENHAGE_BASE_CONVERSION_THRESHOLD"), (1, u "MULTIPLY_SQUARE_THRESHOLD"), (0, u "MONTGOMERY_INTRINSIC_THRESHOLD"), (1, u "SMALL_PRIME_THRESHOLD"), (1, u "DEFAULT_PRIME_CERTAINTY"), (1, u "MAX_CONSTANT"), (3, u "serialVersionUID"), (338, .class_ 1532), (0, u "java/math/BigInteger$RecursiveOp$RecursiveSquare"), (0, .class_ 1534), (0, u "java/math/BigInteger$RecursiveOp$RecursiveMultiply")] 7

/-- java/math/BigInteger -/
def k9 : Class := { plain "java/math/BigInteger" (some 8) with
  accessFlags := 33
  interfaces := #[3]
  cf := some (fileOf pool9 23 #[.nestMembers #[907, 472, 1531, 1533]] #[] 33 4 #[1160] #[{ accessFlags := 16, nameIndex := 34, descriptorIndex := 35, attributes := #[] }, { accessFlags := 16, nameIndex := 30, descriptorIndex := 31, attributes := #[] }, { accessFlags := 2, nameIndex := 752, descriptorIndex := 35, attributes := #[] }, { accessFlags := 2, nameIndex := 749, descriptorIndex := 35, attributes := #[] }, { accessFlags := 2, nameIndex := 746, descriptorIndex := 35, attributes := #[] }, { accessFlags := 2, nameIndex := 868, descriptorIndex := 35, attributes := #[] }, { accessFlags := 24, nameIndex := 1162, descriptorIndex := 1163, attributes := #[] }, { accessFlags := 26, nameIndex := 1165, descriptorIndex := 35, attributes := #[] }, { accessFlags := 26, nameIndex := 1166, descriptorIndex := 35, attributes := #[] }, { accessFlags := 26, nameIndex := 1168, descriptorIndex := 35, attributes := #[] }, { accessFlags := 26, nameIndex := 1170, descriptorIndex := 35, attributes := #[] }, { accessFlags := 26, nameIndex := 1172, descriptorIndex := 35, attributes := #[] }, { accessFlags := 26, nameIndex := 1174, descriptorIndex := 35, attributes := #[] }, { accessFlags := 24, nameIndex := 1176, descriptorIndex := 35, attributes := #[] }, { accessFlags := 24, nameIndex := 1177, descriptorIndex := 35, attributes := #[] }, { accessFlags := 26, nameIndex := 1179, descriptorIndex := 35, attributes := #[] }, { accessFlags := 26, nameIndex := 1181, descriptorIndex := 35, attributes := #[] }, { accessFlags := 26, nameIndex := 1182, descriptorIndex := 35, attributes := #[] }, { accessFlags := 10, nameIndex := 95, descriptorIndex := 96, attributes := #[] }, { accessFlags := 26, nameIndex := 1184, descriptorIndex := 35, attributes := #[] }, { accessFlags := 26, nameIndex := 1186, descriptorIndex := 35, attributes := #[] }, { accessFlags := 26, nameIndex := 180, descriptorIndex := 27, attributes := #[] }, { accessFlags := 26, nameIndex := 1188, descriptorIndex := 35, attributes := #[] }, { accessFlags := 26, nameIndex := 349, descriptorIndex := 350, attributes := #[] }, { accessFlags := 26, nameIndex := 355, descriptorIndex := 350, attributes := #[] }, { accessFlags := 74, nameIndex := 821, descriptorIndex := 822, attributes := #[] }, { accessFlags := 26, nameIndex := 763, descriptorIndex := 764, attributes := #[] }, { accessFlags := 26, nameIndex := 759, descriptorIndex := 760, attributes := #[] }, { accessFlags := 25, nameIndex := 26, descriptorIndex := 27, attributes := #[] }, { accessFlags := 25, nameIndex := 260, descriptorIndex := 27, attributes := #[] }, { accessFlags := 25, nameIndex := 267, descriptorIndex := 27, attributes := #[] }, { accessFlags := 26, nameIndex := 581, descriptorIndex := 27, attributes := #[] }, { accessFlags := 25, nameIndex := 1051, descriptorIndex := 27, attributes := #[] }, { accessFlags := 8, nameIndex := 673, descriptorIndex := 31, attributes := #[] }, { accessFlags := 10, nameIndex := 778, descriptorIndex := 35, attributes := #[] }, { accessFlags := 26, nameIndex := 781, descriptorIndex := 782, attributes := #[] }, { accessFlags := 10, nameIndex := 798, descriptorIndex := 31, attributes := #[] }, { accessFlags := 10, nameIndex := 792, descriptorIndex := 350, attributes := #[] }, { accessFlags := 10, nameIndex := 106, descriptorIndex := 31, attributes := #[] }, { accessFlags := 10, nameIndex := 119, descriptorIndex := 31, attributes := #[] }, { accessFlags := 26, nameIndex := 1192, descriptorIndex := 1163, attributes := #[] }, { accessFlags := 26, nameIndex := 1158, descriptorIndex := 1159, attributes := #[] }, { accessFlags := 4120, nameIndex := 311, descriptorIndex := 312, attributes := #[] }])
  fields := #[{ name := "signum", type := .int, accessFlags := 16, slot := 0, constantValue := 0 }, { name := "mag", type := (.array .int), accessFlags := 16, slot := 1, constantValue := 0 }, { name := "bitCountPlusOne", type := .int, accessFlags := 2, slot := 2, constantValue := 0 }, { name := "bitLengthPlusOne", type := .int, accessFlags := 2, slot := 3, constantValue := 0 }, { name := "lowestSetBitPlusTwo", type := .int, accessFlags := 2, slot := 4, constantValue := 0 }, { name := "firstNonzeroIntNumPlusTwo", type := .int, accessFlags := 2, slot := 5, constantValue := 0 }, { name := "LONG_MASK", type := .long, accessFlags := 24, slot := 0, constantValue := 0 }, { name := "MAX_MAG_LENGTH", type := .int, accessFlags := 26, slot := 1, constantValue := 0 }, { name := "PRIME_SEARCH_BIT_LENGTH_LIMIT", type := .int, accessFlags := 26, slot := 2, constantValue := 0 }, { name := "KARATSUBA_THRESHOLD", type := .int, accessFlags := 26, slot := 3, constantValue := 0 }, { name := "TOOM_COOK_THRESHOLD", type := .int, accessFlags := 26, slot := 4, constantValue := 0 }, { name := "KARATSUBA_SQUARE_THRESHOLD", type := .int, accessFlags := 26, slot := 5, constantValue := 0 }, { name := "TOOM_COOK_SQUARE_THRESHOLD", type := .int, accessFlags := 26, slot := 6, constantValue := 0 }, { name := "BURNIKEL_ZIEGLER_THRESHOLD", type := .int, accessFlags := 24, slot := 7, constantValue := 0 }, { name := "BURNIKEL_ZIEGLER_OFFSET", type := .int, accessFlags := 24, slot := 8, constantValue := 0 }, { name := "SCHOENHAGE_BASE_CONVERSION_THRESHOLD", type := .int, accessFlags := 26, slot := 9, constantValue := 0 }, { name := "MULTIPLY_SQUARE_THRESHOLD", type := .int, accessFlags := 26, slot := 10, constantValue := 0 }, { name := "MONTGOMERY_INTRINSIC_THRESHOLD", type := .int, accessFlags := 26, slot := 11, constantValue := 0 }, { name := "bitsPerDigit", type := (.array .long), accessFlags := 10, slot := 12, constantValue := 0 }, { name := "SMALL_PRIME_THRESHOLD", type := .int, accessFlags := 26, slot := 13, constantValue := 0 }, { name := "DEFAULT_PRIME_CERTAINTY", type := .int, accessFlags := 26, slot := 14, constantValue := 0 }, { name := "SMALL_PRIME_PRODUCT", type := (.object "java/math/BigInteger"), accessFlags := 26, slot := 15, constantValue := 0 }, { name := "MAX_CONSTANT", type := .int, accessFlags := 26, slot := 16, constantValue := 0 }, { name := "posConst", type := (.array (.object "java/math/BigInteger")), accessFlags := 26, slot := 17, constantValue := 0 }, { name := "negConst", type := (.array (.object "java/math/BigInteger")), accessFlags := 26, slot := 18, constantValue := 0 }, { name := "powerCache", type := (.array (.array (.object "java/math/BigInteger"))), accessFlags := 74, slot := 19, constantValue := 0 }, { name := "logCache", type := (.array .double), accessFlags := 26, slot := 20, constantValue := 0 }, { name := "LOG_TWO", type := .double, accessFlags := 26, slot := 21, constantValue := 0 }, { name := "ZERO", type := (.object "java/math/BigInteger"), accessFlags := 25, slot := 22, constantValue := 0 }, { name := "ONE", type := (.object "java/math/BigInteger"), accessFlags := 25, slot := 23, constantValue := 0 }, { name := "TWO", type := (.object "java/math/BigInteger"), accessFlags := 25, slot := 24, constantValue := 0 }, { name := "NEGATIVE_ONE", type := (.object "java/math/BigInteger"), accessFlags := 26, slot := 25, constantValue := 0 }, { name := "TEN", type := (.object "java/math/BigInteger"), accessFlags := 25, slot := 26, constantValue := 0 }, { name := "bnExpModThreshTable", type := (.array .int), accessFlags := 8, slot := 27, constantValue := 0 }, { name := "NUM_ZEROS", type := .int, accessFlags := 10, slot := 28, constantValue := 0 }, { name := "ZEROS", type := (.object "java/lang/String"), accessFlags := 26, slot := 29, constantValue := 0 }, { name := "digitsPerLong", type := (.array .int), accessFlags := 10, slot := 30, constantValue := 0 }, { name := "longRadix", type := (.array (.object "java/math/BigInteger")), accessFlags := 10, slot := 31, constantValue := 0 }, { name := "digitsPerInt", type := (.array .int), accessFlags := 10, slot := 32, constantValue := 0 }, { name := "intRadix", type := (.array .int), accessFlags := 10, slot := 33, constantValue := 0 }, { name := "serialVersionUID", type := .long, accessFlags := 26, slot := 34, constantValue := 0 }, { name := "serialPersistentFields", type := (.array (.object "java/io/ObjectStreamField")), accessFlags := 26, slot := 35, constantValue := 0 }, { name := "$assertionsDisabled", type := .boolean, accessFlags := 4120, slot := 36, constantValue := 0 }]
  methods := #[]
  instanceTypes := #[.int, (.array .int), .int, .int, .int, .int]
  staticTypes := #[.long, .int, .int, .int, .int, .int, .int, .int, .int, .int, .int, .int, (.array .long), .int, .int, (.object "java/math/BigInteger"), .int, (.array (.object "java/math/BigInteger")), (.array (.object "java/math/BigInteger")), (.array (.array (.object "java/math/BigInteger"))), (.array .double), .double, (.object "java/math/BigInteger"), (.object "java/math/BigInteger"), (.object "java/math/BigInteger"), (.object "java/math/BigInteger"), (.object "java/math/BigInteger"), (.array .int), .int, (.object "java/lang/String"), (.array .int), (.array (.object "java/math/BigInteger")), (.array .int), (.array .int), .long, (.array (.object "java/io/ObjectStreamField")), .boolean]
  resolved := Array.replicate 1542 none
  statics := none }

def pool10 : Array CpInfo := pool [(1, u "java/lang/Cloneable"), (0, .class_ 1), (0, u "java/lang/Object"), (0, .class_ 3)] 3

/-- java/lang/Cloneable -/
def k10 : Class := { plain "java/lang/Cloneable" (some 0) with
  accessFlags := 1537
  interfaces := #[]
  cf := some (fileOf pool10 2 #[] #[] 1537 4 #[] #[])
  fields := #[]
  methods := #[]
  instanceTypes := #[]
  staticTypes := #[]
  resolved := Array.replicate 8 none
  statics := none }

/-- the primitive byte -/
def k11 : Class := { plain "byte" none with kind := .primitive 'B', accessFlags := 0x411 }
/-- [B -/
def k12 : Class := { plain "[B" (some 0) with kind := .array 11 .byte, interfaces := #[10, 4], accessFlags := 1041 }

/-- the primitive int -/
def k13 : Class := { plain "int" none with kind := .primitive 'I', accessFlags := 0x411 }
/-- [I -/
def k14 : Class := { plain "[I" (some 0) with kind := .array 13 .int, interfaces := #[10, 4], accessFlags := 1041 }

def heap : Heap := #[{ cls := 7, slots := #[.ref 2, .ref 3, .ref 4, .ref 5, .ref 6, .ref 7, .ref 8, .ref 9, .ref 10, .ref 11, .ref 12, .ref 13, .ref 14, .ref 15, .ref 16, .ref 17, .ref 18, .null], vm := .statics 7 },
  { cls := 9, slots := #[.int 1, .null, .int 0, .int 0, .int 0, .int 0], vm := .none },
  { cls := 7, slots := #[.null, .int 0, .int 0, .null, .null, .null, .null, .int 0, .null], vm := .none },
  { cls := 7, slots := #[.null, .int 1, .int 0, .null, .null, .ref 1, .null, .int 0, .null], vm := .none },
  { cls := 7, slots := #[.null, .int 2, .int 0, .null, .null, .ref 1, .null, .int 0, .null], vm := .none },
  { cls := 7, slots := #[.null, .int 3, .int 0, .null, .null, .ref 1, .null, .int 0, .null], vm := .none },
  { cls := 7, slots := #[.null, .int 4, .int 0, .null, .null, .ref 1, .null, .int 0, .null], vm := .none },
  { cls := 7, slots := #[.null, .int 5, .int 0, .null, .null, .ref 1, .null, .int 0, .null], vm := .none },
  { cls := 7, slots := #[.null, .int 6, .int 0, .null, .null, .ref 1, .null, .int 0, .null], vm := .none },
  { cls := 7, slots := #[.null, .int 7, .int 0, .null, .null, .ref 1, .null, .int 0, .null], vm := .none },
  { cls := 7, slots := #[.null, .int 8, .int 0, .null, .null, .ref 1, .null, .int 0, .null], vm := .none },
  { cls := 7, slots := #[.null, .int 9, .int 0, .null, .null, .ref 1, .null, .int 0, .null], vm := .none },
  { cls := 7, slots := #[.null, .int 10, .int 0, .null, .null, .ref 1, .null, .int 0, .null], vm := .none },
  { cls := 7, slots := #[.null, .int 11, .int 0, .null, .null, .null, .null, .int 0, .null], vm := .none },
  { cls := 7, slots := #[.null, .int 12, .int 0, .null, .null, .null, .null, .int 0, .null], vm := .none },
  { cls := 7, slots := #[.null, .int 13, .int 0, .null, .null, .null, .null, .int 0, .null], vm := .none },
  { cls := 7, slots := #[.null, .int 14, .int 0, .null, .null, .null, .null, .int 0, .null], vm := .none },
  { cls := 7, slots := #[.null, .int 15, .int 0, .null, .null, .null, .null, .int 0, .null], vm := .none },
  { cls := 7, slots := #[.null, .int 16, .int 0, .null, .null, .ref 1, .null, .int 0, .null], vm := .none }]
def classes : Array Class := #[k0, k1, k2, k3, k4, k5, k6, k7, k8, k9, k10, k11, k12, k13, k14]
def interned : List (Array UInt16 × Addr) := []
def slotsUsed : Nat := 177
def theMethod : MethodId := ⟨1, 2⟩
def args0 : Array Value := #[.int 5]
def aboutOver (below : List Frame) : State where
  vm := { classes := classes, interned := interned.toArray }
  heap := heap
  slotsUsed := slotsUsed
  threads := #[{ frames := .invoking theMethod args0 :: below }]
def below0 : List Frame := [.native { method := ⟨0, 0⟩, args := #[] }]
def about1 : State := aboutOver below0
def p0 : Program := .bare "" "" ""
def e0 : Env := launch0.env 0 0 0
theorem w_frames : about1.frames = Frame.invoking theMethod args0 :: below0 := rfl
set_option maxRecDepth 65536 in
theorem w_args : argsFit about1.vm theMethod args0 = true := by decide +kernel
set_option maxRecDepth 65536 in
theorem w_heap : heapFits about1 = true := by decide +kernel
set_option maxRecDepth 65536 in
theorem w_runnable : about1.curStatus? = some .runnable := by decide +kernel
set_option maxRecDepth 65536 in
theorem w_alone : about1.alone = true := by decide +kernel
set_option maxRecDepth 65536 in
theorem w_named : about1.methodNamed? x = some theMethod := by decide +kernel
set_option maxRecDepth 65536 in
theorem w_hears : about1.hears theMethod below0 = true := by decide +kernel
set_option maxRecDepth 65536 in
theorem w_ripe : about1.ripe theMethod args0 below0 = true := by decide +kernel
theorem w_running : about1.status = .running := rfl
set_option maxRecDepth 65536 in
theorem w_room : about1.hasRoom e0.platform room_1 = true :=
  launch0.hasRoom_least _ room_1 (by decide +kernel) (by decide +kernel) (by decide +kernel) (by decide +kernel) (by decide +kernel) (by decide +kernel)
theorem allAtoms_all (ts : List Jvm.Cond) (a : Array Jvm.Value) (st : Jvm.State) : (allAtoms ts).before a st = ts.all (fun c => c.before a st) := by
  induction ts with
  | nil => rfl
  | cons c t ih =>
    show (Jvm.Cond.and c (allAtoms t)).before a st = _
    rw [Jvm.Cond.before_and, ih, List.all_cons]
def words1 : List Jvm.Cond := Jvm.Cond.code x code maxLocals ret :: tables_1
/-- a 'code' word, met by the world's own term for the bytes: nothing is compared byte by byte -/
theorem code_word {y : MethodName} {bytes : ByteArray} {mx : Nat} {rt : Option FieldType} {a : Array Value} {s : State} {m : MethodId} {meth : Method} {c : Code} (h1 : s.methodNamed? y = some m) (h2 : s.vm.method? m = some meth) (h3 : meth.code = some c) (h4 : c.code = bytes)
    (h5 : (c.maxLocals == mx && c.exceptionTable.isEmpty && decide (c.maxStack ≤ mostOperands) && decide (meth.sig.returnType = rt) && !meth.locks && decide (parseMethodDescriptor y.desc = some meth.sig)) = true) : (Jvm.Cond.code y bytes mx rt).before a s = true := by
  simp only [Bool.and_eq_true, beq_iff_eq, Bool.not_eq_true', decide_eq_true_eq] at h5
  obtain ⟨⟨⟨⟨⟨g1, g2⟩, g3⟩, g4⟩, g5⟩, g6⟩ := h5
  simp [Cond.before, Cond.holds, Cond.value, h1, h2, h3, h4, g1, g2, g3, g4, g5, g6]
def isCode : Jvm.Cond → Bool
  | .code _ _ _ _ => true
  | _ => false
theorem all_split {L : List Jvm.Cond} {P : Jvm.Cond → Bool} (h1 : L.all (fun c => isCode c || P c) = true) (h2 : ∀ c ∈ L.filter isCode, P c = true) : L.all P = true := by
  refine List.all_eq_true.mpr fun c hc => ?_
  have h := List.all_eq_true.mp h1 c hc
  rcases Bool.eq_false_or_eq_true (isCode c) with hi | hi
  · exact h2 c (List.mem_filter.mpr ⟨hc, hi⟩)
  · simpa [hi] using h
set_option maxRecDepth 65536 in
theorem w_c0 : (Jvm.Cond.code x code maxLocals ret).before args0 about1 = true := code_word (m := ⟨1, 2⟩) (meth := k1m2) (c := k1c2) (by decide +kernel) rfl rfl rfl (by decide +kernel)
set_option maxRecDepth 65536 in
theorem w_c1 : (Jvm.Cond.code ({ cls := "com/example/litera/litera/PrimitiveTypeIsIntegerPinLaw", name := "pick", desc := "(I)Lcom/example/litera/litera/PrimitiveType;" } : Jvm.MethodName) method_2_code (1 : Nat) (Option.some (Jvm.ClassFile.FieldType.object "com/example/litera/litera/PrimitiveType"))).before args0 about1 = true := code_word (m := ⟨1, 1⟩) (meth := k1m1) (c := k1c1) (by decide +kernel) rfl rfl rfl (by decide +kernel)
set_option maxRecDepth 65536 in
theorem w_c2 : (Jvm.Cond.code ({ cls := "com/example/litera/litera/PrimitiveType", name := "isInteger", desc := "()Z" } : Jvm.MethodName) prog_32_method_8_code (1 : Nat) (Option.some Jvm.ClassFile.FieldType.boolean)).before args0 about1 = true := code_word (m := ⟨7, 0⟩) (meth := k7m0) (c := k7c0) (by decide +kernel) rfl rfl rfl (by decide +kernel)
def codes1 : List Jvm.Cond := [Jvm.Cond.code x code maxLocals ret, Jvm.Cond.code ({ cls := "com/example/litera/litera/PrimitiveTypeIsIntegerPinLaw", name := "pick", desc := "(I)Lcom/example/litera/litera/PrimitiveType;" } : Jvm.MethodName) method_2_code (1 : Nat) (Option.some (Jvm.ClassFile.FieldType.object "com/example/litera/litera/PrimitiveType")), Jvm.Cond.code ({ cls := "com/example/litera/litera/PrimitiveType", name := "isInteger", desc := "()Z" } : Jvm.MethodName) prog_32_method_8_code (1 : Nat) (Option.some Jvm.ClassFile.FieldType.boolean)]
set_option maxRecDepth 65536 in
theorem codes_eq : words1.filter isCode = codes1 := rfl
theorem w_codes : ∀ c ∈ words1.filter isCode, c.before args0 about1 = true := by
  rw [codes_eq]
  intro c hc
  simp only [codes1, List.mem_cons, List.not_mem_nil, or_false] at hc
  rcases hc with rfl | rfl | rfl
  · exact w_c0
  · exact w_c1
  · exact w_c2
set_option maxRecDepth 65536 in
theorem w_t1 : (words1.take 24).all (fun c => isCode c || c.before args0 about1) = true := by decide +kernel
set_option maxRecDepth 65536 in
theorem w_t2 : ((words1.drop 24).take 24).all (fun c => isCode c || c.before args0 about1) = true := by decide +kernel
set_option maxRecDepth 65536 in
theorem w_t3 : ((words1.drop 24).drop 24).all (fun c => isCode c || c.before args0 about1) = true := by decide +kernel
theorem w_tables : (allAtoms (Jvm.Cond.code x code maxLocals ret :: tables_1)).before args0 about1 = true := by
  rw [allAtoms_all]
  show words1.all (fun c => c.before args0 about1) = true
  refine all_split ?_ w_codes
  rw [← List.take_append_drop 24 words1, List.all_append, w_t1, ← List.take_append_drop 24 (words1.drop 24), List.all_append, w_t2, w_t3]
  rfl
set_option maxRecDepth 65536 in
theorem w_case : (Jvm.Cond.and given_1 narrow_1).before args0 about1 = true := by decide +kernel
theorem w_applies : (headSpec (Jvm.Cond.code x code maxLocals ret :: tables_1) room_1).applies x e0.platform about1 = true :=
  (Spec.applies_iff w_frames).mpr ⟨w_running, w_runnable, w_alone, w_named, w_hears, w_ripe, w_room, w_tables⟩
theorem atStart : AtStart classFile x code maxLocals ret World_1 tables_1 room_1 Calls_1 rest_1 Pre_1 launch0 p0 e0 about1 theMethod args0 below0 :=
  ⟨lists_1, trivial, launch0.admits_env _ _ _, launch0.least_env, fairChoices_fair.cas, fairChoices_fair.clock, w_frames, w_args, w_heap, w_applies, trivial, trivial, w_case⟩
end start1
theorem witness_1 : WitnessClaimed_1 := ⟨start1.p0, start1.e0, start1.about1, start1.theMethod, start1.args0, start1.below0, start1.atStart⟩
end Jvm.Pilot.@@N@@
