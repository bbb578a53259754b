import JvmDerived
import JvmDerived.Pilot.@@N@@Statement
import JvmDerived.Pilot.@@N@@Code
set_option linter.unusedVariables false
set_option linter.unusedSimpArgs false
@@BLOCK:NumsL.lean.txt@@
namespace Jvm.RoadKit
open Sem ClassFile Op Lib Jvm.Stand Jvm.Free Jvm.LawKit
section New
variable {p : Program} {l : Launch} {e : Env} {R : Room} {s : State} {m : MethodId} {args : Array Value} {below : List Frame} {meth : Method} {c : Code} {T : State} {locs : List Loc} {cells slots : Nat}
theorem retI (X : Stand p l e R s m args below meth c T locs cells slots) (hx : p.tables.exec = Jvm.exec) {pc : Nat} {Ls : Array Slot} {z : Int32} {rest : List Value} (hret : meth.sig.returnType = some .int) (hd : decode c.code pc = .ok (.ireturn, 1)) {fs : List Frame}
    (hl : ∀ (f : JFrame) (acts : List Action), f.method = m → f.locked = none → f.entered = [] → (doReturn e (T.setTop f) acts (some (.int z))).1 = T.setFrames fs) : Steps p.tables e below (T.setTop (mkF m pc Ls (.int z :: rest))) (T.setFrames fs) := by
  have hm' : T.vm.method? m = some meth := X.method'
  have hn : narrow .int (.int z) = .int z := rfl
  show Steps p.tables e below (T.setTop { method := m, pc := pc, locals := Ls, stack := _ :: rest, locked := none }) _
  jvm_step X.here [X.here.top, hx, hd, hm', hret, hn]
  first | (intro acts; rw [hl _ acts rfl rfl rfl]) | rw [hl _ _ rfl rfl rfl]
  exact Steps.refl _
/-- the run from U comes to an end of which Q speaks -/
def Gl (tb : Tables) (e : Env) (below : List Frame) (Q : State → Outcome → Prop) (U : State) : Prop := ∃ s₂ o, Steps tb e below U s₂ ∧ s₂.status = .running ∧ Ended s₂ below o ∧ Q s₂ o
theorem Gl.out {tb : Tables} {Q : State → Outcome → Prop} {U : State} (h : Gl tb e below Q U) : ∃ s₂ o, Steps tb e below U s₂ ∧ s₂.status = .running ∧ Ended s₂ below o ∧ Q s₂ o := h
theorem Gl.mk {tb : Tables} {Q : State → Outcome → Prop} {U : State} (h : ∃ s₂ o, Steps tb e below U s₂ ∧ s₂.status = .running ∧ Ended s₂ below o ∧ Q s₂ o) : Gl tb e below Q U := h
theorem Gl.go {tb : Tables} {Q : State → Outcome → Prop} {U V : State} (g : Gl tb e below Q V) (st : ∀ t, Steps tb e below V t → Steps tb e below U t) : Gl tb e below Q U := by
  obtain ⟨s₂, o, h1, h2⟩ := g
  exact ⟨s₂, o, st _ h1, h2⟩
theorem Gl.tr {tb : Tables} {Q : State → Outcome → Prop} {U V : State} (g : Gl tb e below Q V) (st : Steps tb e below U V) : Gl tb e below Q U := g.go fun _ k => st.trans k
/-- what a body leaves that writes and makes nothing: it returns w, the heap as it was -/
def PQ (w : Option Value) (h0 : Heap) (v : Option Value) (h : Heap) (L : List Loc) : Prop := v = w ∧ L = [] ∧ h = h0
/-- an array of ints or bytes: its length N and what it holds at j -/
def BA (Z : State) (h : Heap) (a : Addr) (ty : FieldType) (N : Int32) (f : Int32 → Int32) : Prop := ∃ cl : Cell, Arr Z h a cl ty ∧ cl.slots.size = N.toNatClampNeg ∧ ¬ N < 0 ∧ ∀ j : Int32, ¬ j < 0 → j < N → cl.slots[j.toNatClampNeg]? = some (.int (f j))
theorem BA.rdB {Z : State} {h : Heap} {a : Addr} {N j : Int32} {f : Int32 → Int32} (B : BA Z h a .byte N f) (X : Stand p l e R s m args below meth c T locs cells slots) (hx : p.tables.exec = Jvm.exec) (hZ : Z.Warmed39 s.vm) (eT : T.heap = h) (h1 : ¬ j < 0) (h2 : j < N) {g : JFrame} (hg : g.method = m) {rest : List Value} (hs : g.stack = .int j :: .ref a :: rest) (hd : decode c.code g.pc = .ok (.baload, 1)) :
    ∀ target, Steps p.tables e below (T.setTop { g with pc := g.pc + 1, stack := .int (f j) :: rest }) target → Steps p.tables e below (T.setTop g) target := by
  obtain ⟨cl, A, S, N0, H⟩ := B
  intro target k
  exact X.baloadBytes hx (j := j) (v := .int (f j)) (by rw [eT]; exact A.1) (State.isArrayOf_alike hZ.alike A.2.1) A.2.2 (inb_of S ⟨h1, h2⟩) (H j h1 h2) (g := g) hg hs hd _ k
theorem BA.rdI {Z : State} {h : Heap} {a : Addr} {N j : Int32} {f : Int32 → Int32} (B : BA Z h a .int N f) (X : Stand p l e R s m args below meth c T locs cells slots) (hx : p.tables.exec = Jvm.exec) (hZ : Z.Warmed39 s.vm) (eT : T.heap = h) (h1 : ¬ j < 0) (h2 : j < N) {g : JFrame} (hg : g.method = m) {rest : List Value} (hs : g.stack = .int j :: .ref a :: rest) (hd : decode c.code g.pc = .ok (.iaload, 1)) :
    ∀ target, Steps p.tables e below (T.setTop { g with pc := g.pc + 1, stack := .int (f j) :: rest }) target → Steps p.tables e below (T.setTop g) target := by
  obtain ⟨cl, A, S, N0, H⟩ := B
  intro target k
  exact X.iaload hx (j := j) (v := .int (f j)) (by rw [eT]; exact A.1) (State.isArrayOf_alike hZ.alike A.2.1) A.2.2 (inb_of S ⟨h1, h2⟩) (H j h1 h2) (g := g) hg hs hd _ k
theorem BA.len {Z : State} {h : Heap} {a : Addr} {N : Int32} {ty : FieldType} {f : Int32 → Int32} (B : BA Z h a ty N f) (X : Stand p l e R s m args below meth c T locs cells slots) (hx : p.tables.exec = Jvm.exec) (hZ : Z.Warmed39 s.vm) (eT : T.heap = h) {g : JFrame} (hg : g.method = m) {rest : List Value} (hs : g.stack = .ref a :: rest) (hd : decode c.code g.pc = .ok (.arraylength, 1)) :
    ∀ target, Steps p.tables e below (T.setTop { g with pc := g.pc + 1, stack := .int N :: rest }) target → Steps p.tables e below (T.setTop g) target := by
  obtain ⟨cl, A, S, N0, H⟩ := B
  intro target k
  refine X.arraylength hx (by rw [eT]; exact A.1) (State.isArrayOf_alike hZ.alike A.2.1) (g := g) hg hs hd _ ?_
  rw [len_of S N0]
  exact k
theorem Arv.rdR {Z : State} {h : Heap} {a : Addr} {k : ClassId} {N j : Int32} {ty : FieldType} {vs : List Value} {d v : Value} (V : Arv Z h a k ty N vs d) (hty : ty.isReference = true) (X : Stand p l e R s m args below meth c T locs cells slots) (hx : p.tables.exec = Jvm.exec) (hZ : Z.Warmed39 s.vm) (eT : T.heap = h) (h1 : ¬ j < 0) (h2 : j < N) (hv : vs.getD j.toNatClampNeg d = v) {g : JFrame} (hg : g.method = m) {rest : List Value} (hs : g.stack = .int j :: .ref a :: rest) (hd : decode c.code g.pc = .ok (.aaload, 1)) :
    ∀ target, Steps p.tables e below (T.setTop { g with pc := g.pc + 1, stack := v :: rest }) target → Steps p.tables e below (T.setTop g) target := by
  obtain ⟨cl, A, -, S, N0, H, -⟩ := V
  intro target k
  exact X.aaload hx (j := j) (v := v) (by rw [eT]; exact A.1) (State.isArrayOf_alike hZ.alike A.2.1) hty A.2.2 (inb_of S ⟨h1, h2⟩) (H.at (inb_of S ⟨h1, h2⟩) hv) (g := g) hg hs hd _ k
theorem BA.ext {Z : State} {h h' : Heap} {a : Addr} {N : Int32} {ty : FieldType} {f : Int32 → Int32} (B : BA Z h a ty N f) (E : Ext h h') : BA Z h' a ty N f := by
  obtain ⟨cl, A, r⟩ := B; exact ⟨cl, A.ext E, r⟩
theorem BA.other {Z : State} {h h' : Heap} {a b : Addr} {N : Int32} {ty : FieldType} {f : Int32 → Int32} {sl : Nat} {v : Value} (B : BA Z h b ty N f) (W : Wr h h' a sl v) (q : b ≠ a) : BA Z h' b ty N f := by
  obtain ⟨cl, A, r⟩ := B; exact ⟨cl, A.other W q, r⟩
theorem BA.lt {Z : State} {h : Heap} {a : Addr} {N : Int32} {ty : FieldType} {f : Int32 → Int32} (B : BA Z h a ty N f) : a < h.size := by
  obtain ⟨cl, A, r⟩ := B; exact A.lt
/-- the list of an array's values, read as a function -/
def nth (xs : List Int32) (j : Int32) : Int32 := xs.getD j.toNatClampNeg 0
theorem BA.of {Z : State} {h : Heap} {a : Addr} {k : ClassId} {N : Int32} {ty : FieldType} {d : Value} (xs : List Int32) (V : Arv Z h a k ty N (xs.map Value.int) d) (hl : N.toNatClampNeg ≤ xs.length) : BA Z h a ty N (nth xs) := by
  obtain ⟨cl, A, -, S, N0, H, -⟩ := V
  refine ⟨cl, A, S, N0, fun j h1 h2 => ?_⟩
  have h3 : j.toNatClampNeg < N.toNatClampNeg := by
    rw [Int32.lt_iff_toInt_lt] at h1 h2
    have e0 : (0 : Int32).toInt = 0 := rfl
    simp only [Int32.toNatClampNeg]; omega
  rw [H _ (by omega)]
  have h4 : j.toNatClampNeg < xs.length := by omega
  simp [nth, List.getD_eq_getElem?_getD, h4]
end New
end Jvm.RoadKit
namespace Jvm.Pilot.@@N@@
open Jvm Jvm.ClassFile Sem Op Lib Jvm.Free Jvm.Stand Jvm.LawKit Jvm.RoadKit Bundle Jvm.Pilot.@@N@@.Jvm.D
theorem own_eqv {args : Array Value} {first s : State} {o : Option Outcome} {idx : List Nat} {a b : Term} {y : Value} (h : (Cond.eq a b).value args first o s idx = some true) (hb : b.eval args first o idx s = some y) (hy : y.isRef = true ∨ ∃ z, y = .int z) : a.eval args first o idx s = some y := by
  cases ha : a.eval args first o idx s with
  | none => simp [Cond.value, ha] at h
  | some x => rcases hy with hy | ⟨z, rfl⟩ <;> cases x <;> (try cases y) <;> simp_all [Cond.value, Value.isRef]
theorem own_ref {v : Value} (h : v.isRef = true) : v = .null ∨ ∃ a, v = .ref a := ref_cases h
theorem own_nr (a : Addr) : ¬ (Value.ref a) = .null := nofun
theorem iv_lt {x a : Int32} {k : Int} (hk : a.toInt = k) (h : x < a) : x.toInt < k := hk ▸ Int32.lt_iff_toInt_lt.mp h
theorem iv_nlt {x a : Int32} {k : Int} (hk : a.toInt = k) (h : ¬ x < a) : k ≤ x.toInt := by rw [Int32.lt_iff_toInt_lt, hk] at h; omega
theorem iv_gt {x a : Int32} {k : Int} (hk : a.toInt = k) (h : a < x) : k < x.toInt := hk ▸ Int32.lt_iff_toInt_lt.mp h
theorem iv_ngt {x a : Int32} {k : Int} (hk : a.toInt = k) (h : ¬ a < x) : x.toInt ≤ k := by rw [Int32.lt_iff_toInt_lt, hk] at h; omega
theorem iv_eq {x a : Int32} {k : Int} (hk : a.toInt = k) (h : x = a) : x.toInt = k := h ▸ hk
theorem iv_ne {x a : Int32} {k : Int} (hk : a.toInt = k) (h : ¬ x = a) : x.toInt ≠ k := fun q => h (Int32.toInt_inj.mp (q.trans hk.symm))
theorem iv_lt' {x a : Int32} {k : Int} (hk : a.toInt = k) (h : x.toInt < k) : x < a := Int32.lt_iff_toInt_lt.mpr (hk ▸ h)
theorem iv_nlt' {x a : Int32} {k : Int} (hk : a.toInt = k) (h : k ≤ x.toInt) : ¬ x < a := by rw [Int32.lt_iff_toInt_lt, hk]; omega
theorem iv_gt' {x a : Int32} {k : Int} (hk : a.toInt = k) (h : k < x.toInt) : a < x := Int32.lt_iff_toInt_lt.mpr (hk ▸ h)
theorem iv_ngt' {x a : Int32} {k : Int} (hk : a.toInt = k) (h : x.toInt ≤ k) : ¬ a < x := by rw [Int32.lt_iff_toInt_lt, hk]; omega
theorem iv_eq' {x a : Int32} {k : Int} (hk : a.toInt = k) (h : x.toInt = k) : x = a := Int32.toInt_inj.mp (h.trans hk.symm)
theorem iv_neq' {x a : Int32} {k : Int} (hk : a.toInt = k) (h : x.toInt ≠ k) : ¬ x = a := fun q => h (q ▸ hk)
theorem d1_0 : decode prog_133_method_5_code 0 = .ok (.aload_n 0, 1) := by decide +kernel
theorem d1_1 : decode prog_133_method_5_code 1 = .ok (.astore_n 1, 1) := by decide +kernel
theorem d1_2 : decode prog_133_method_5_code 2 = .ok (.aload_n 0, 1) := by decide +kernel
theorem d1_3 : decode prog_133_method_5_code 3 = .ok (.getstatic 3, 3) := by decide +kernel
theorem d1_6 : decode prog_133_method_5_code 6 = .ok (.if_acmp .ne 10, 3) := by decide +kernel
theorem d1_9 : decode prog_133_method_5_code 9 = .ok (.getstatic 10, 3) := by decide +kernel
theorem d1_12 : decode prog_133_method_5_code 12 = .ok (.astore_n 1, 1) := by decide +kernel
theorem d1_13 : decode prog_133_method_5_code 13 = .ok (.goto 14, 3) := by decide +kernel
theorem d1_16 : decode prog_133_method_5_code 16 = .ok (.aload_n 0, 1) := by decide +kernel
theorem d1_17 : decode prog_133_method_5_code 17 = .ok (.getstatic 10, 3) := by decide +kernel
theorem d1_20 : decode prog_133_method_5_code 20 = .ok (.if_acmp .ne 7, 3) := by decide +kernel
theorem d1_23 : decode prog_133_method_5_code 23 = .ok (.getstatic 3, 3) := by decide +kernel
theorem d1_26 : decode prog_133_method_5_code 26 = .ok (.astore_n 1, 1) := by decide +kernel
theorem d1_27 : decode prog_133_method_5_code 27 = .ok (.aload_n 1, 1) := by decide +kernel
theorem d1_28 : decode prog_133_method_5_code 28 = .ok (.areturn, 1) := by decide +kernel
theorem pn_1 : plainName "com/example/facet/facet/datatypes/Order" = true := by first | (simp [plainName, overriddenIn]; done) | decide +kernel
def f_rev (a aL aG : Addr) : Addr := (if a = aL then aG else (if a = aG then aL else a))
theorem ef_rm1 (m : MethodId) (x0 : Addr) : entryFrame m #[(.ref x0)] 2 = mkF m 0 #[.val (.ref x0), .unset] [] := by first | (simp [entryFrame, mkF, argsToLocals, Value.category]; done) | rfl
set_option maxRecDepth 65536 in
set_option maxHeartbeats 40000000 in
theorem rm1 (l : Launch) (Z : State) (a0 : Array Value) (hw : ∀ d ∈ tables_1, d.before a0 Z = true) (ws : List Jvm.Cond) (a : Addr) (aL aG : Addr) (h0 : Heap) (S_L : Sta Z h0 "com/example/facet/facet/datatypes/Order" "LESS" "Lcom/example/facet/facet/datatypes/Order;" (.ref aL)) (S_G : Sta Z h0 "com/example/facet/facet/datatypes/Order" "GREATER" "Lcom/example/facet/facet/datatypes/Order;" (.ref aG)) :
    MetFree l (⟨"com/example/facet/facet/datatypes/Order", "reverse", "()Lcom/example/facet/facet/datatypes/Order;"⟩ : MethodName) (head1 (Jvm.Cond.code (⟨"com/example/facet/facet/datatypes/Order", "reverse", "()Lcom/example/facet/facet/datatypes/Order;"⟩ : MethodName) prog_133_method_5_code 2 (some (.object "com/example/facet/facet/datatypes/Order")) :: ws) ({ frames := 0, cells := 0, slots := 0, locals := 0 } : Room)) (fun aQ U => aQ = #[(.ref a)] ∧ Z.Warmed39 U.vm ∧ U.heap = h0) (fun _ _ _ _ _ => True) (fun _ U o U' => ∃ vQ LQ, o = .returned vQ ∧ PQ (some (.ref (f_rev a aL aG))) h0 vQ U'.heap LQ ∧ FrameEnd U o U' LQ ({ frames := 0, cells := 0, slots := 0, locals := 0 } : Room).cells ({ frames := 0, cells := 0, slots := 0, locals := 0 } : Room).slots) := by
  refine MetFree.of_bodySF (plainFor_of_name pn_1) hisR ?_
  intro p e s m args below meth c s₁ Bd hml0 hP hK
  obtain ⟨rfl, hZ, hh⟩ := hP
  have hx := Bd.exec
  have hby := Bd.bytes
  have hml : c.maxLocals = 2 := hml0
  have hown : s.vm.findClass "com/example/facet/facet/datatypes/Order" = some m.cls := findClass_of_methodNamed Bd.named
  have hnm := (name_of_methodNamed Bd.named Bd.method).1
  have X0 : Stand p l e ({ frames := 0, cells := 0, slots := 0, locals := 0 } : Room) s m #[(.ref a)] below meth c s₁ [] 0 0 := Stand.of_body Bd
  have e0 : s₁.heap = h0 := by rw [← hh, Bd.state]; rfl
  refine Gl.out ?_
  refine Gl.go ?_ (fun t k => castTop (ef_rm1 m a) k)
  show Gl _ _ _ _ (s₁.setTop (mkF m 0 #[.val (.ref a), .unset] []))
  refine Gl.go ?_ (fun t k => XS.aloadN X0.here hx rfl (hb hby d1_0) rfl rfl k)
  show Gl _ _ _ _ (s₁.setTop (mkF m 1 #[.val (.ref a), .unset] [(.ref a)]))
  refine Gl.go ?_ (fun t k => XS.astoreN X0.here hx rfl (hb hby d1_1) rfl rfl (l' := #[.val (.ref a), .val (.ref a)]) rfl k)
  show Gl _ _ _ _ (s₁.setTop (mkF m 2 #[.val (.ref a), .val (.ref a)] []))
  refine Gl.go ?_ (fun t k => XS.aloadN X0.here hx rfl (hb hby d1_2) rfl rfl k)
  show Gl _ _ _ _ (s₁.setTop (mkF m 3 #[.val (.ref a), .val (.ref a)] [(.ref a)]))
  obtain ⟨T1, X1, e1, st1⟩ := getS2 X0 hx hZ hown (host := "") (Or.inl (hw _ (List.mem_of_getElem? (i := 17) rfl))) Via.refl e0 S_L (g := (mkF m 3 #[.val (.ref a), .val (.ref a)] [(.ref a)])) rfl (hb hby d1_3)
  refine Gl.go ?_ st1
  show Gl _ _ _ _ (T1.setTop (mkF m 6 #[.val (.ref a), .val (.ref a)] [(.ref aL), (.ref a)]))
  by_cases ha2 : a = aL
  · refine Gl.go ?_ (fun t k => Jvm.RoadKit.acmp (g := (mkF m 6 #[.val (.ref a), .val (.ref a)] [(.ref aL), (.ref a)])) X1 hx rfl rfl rfl (pc0 := 6) (pc' := 9) (same := true) rfl (hb hby d1_6) rfl (decide_eq_true (congrArg Value.ref ha2)) (by decide) (by decide) k)
    show Gl _ _ _ _ (T1.setTop (mkF m 9 #[.val (.ref a), .val (.ref a)] []))
    obtain ⟨T3, X3, e3, st3⟩ := getS2 X1 hx hZ hown (host := "") (Or.inl (hw _ (List.mem_of_getElem? (i := 18) rfl))) Via.refl e1 S_G (g := (mkF m 9 #[.val (.ref a), .val (.ref a)] [])) rfl (hb hby d1_9)
    refine Gl.go ?_ st3
    show Gl _ _ _ _ (T3.setTop (mkF m 12 #[.val (.ref a), .val (.ref a)] [(.ref aG)]))
    refine Gl.go ?_ (fun t k => XS.astoreN X3.here hx rfl (hb hby d1_12) rfl rfl (l' := #[.val (.ref a), .val (.ref aG)]) rfl k)
    show Gl _ _ _ _ (T3.setTop (mkF m 13 #[.val (.ref a), .val (.ref aG)] []))
    refine Gl.go ?_ (fun t k => XS.goto X3.here hx rfl (pc0 := 13) (pc' := 27) rfl (hb hby d1_13) (by decide) (by decide) k)
    show Gl _ _ _ _ (T3.setTop (mkF m 27 #[.val (.ref a), .val (.ref aG)] []))
    refine Gl.go ?_ (fun t k => XS.aloadN X3.here hx rfl (hb hby d1_27) rfl rfl k)
    show Gl _ _ _ _ (T3.setTop (mkF m 28 #[.val (.ref a), .val (.ref aG)] [(.ref aG)]))
    obtain ⟨fs, hr, hrun, hended, hW, hsame⟩ := X3.leave (v := some (.ref aG)) (fun h => by rw [Bd.returns] at h; cases h)
    exact Gl.mk ⟨_, _, retOut X3 hx Bd.returns rfl (Or.inr (Or.inr (Or.inr (Or.inr ⟨rfl, rfl, rfl⟩)))) (hb hby d1_28) hr, hrun, hended, _, _, rfl, ⟨congrArg (fun z => some (Value.ref z)) ((if_pos ha2).trans (rfl)).symm, rfl, e3⟩, ⟨_, rfl⟩, hW, hsame.mono (by decide) (by decide)⟩
  · refine Gl.go ?_ (fun t k => Jvm.RoadKit.acmp (g := (mkF m 6 #[.val (.ref a), .val (.ref a)] [(.ref aL), (.ref a)])) X1 hx rfl rfl rfl (pc0 := 6) (pc' := 16) (same := false) rfl (hb hby d1_6) rfl (decide_eq_false fun q => ha2 (Value.ref.inj q)) (by decide) (by decide) k)
    show Gl _ _ _ _ (T1.setTop (mkF m 16 #[.val (.ref a), .val (.ref a)] []))
    refine Gl.go ?_ (fun t k => XS.aloadN X1.here hx rfl (hb hby d1_16) rfl rfl k)
    show Gl _ _ _ _ (T1.setTop (mkF m 17 #[.val (.ref a), .val (.ref a)] [(.ref a)]))
    obtain ⟨T4, X4, e4, st4⟩ := getS2 X1 hx hZ hown (host := "") (Or.inl (hw _ (List.mem_of_getElem? (i := 18) rfl))) Via.refl e1 S_G (g := (mkF m 17 #[.val (.ref a), .val (.ref a)] [(.ref a)])) rfl (hb hby d1_17)
    refine Gl.go ?_ st4
    show Gl _ _ _ _ (T4.setTop (mkF m 20 #[.val (.ref a), .val (.ref a)] [(.ref aG), (.ref a)]))
    by_cases ha5 : a = aG
    · refine Gl.go ?_ (fun t k => Jvm.RoadKit.acmp (g := (mkF m 20 #[.val (.ref a), .val (.ref a)] [(.ref aG), (.ref a)])) X4 hx rfl rfl rfl (pc0 := 20) (pc' := 23) (same := true) rfl (hb hby d1_20) rfl (decide_eq_true (congrArg Value.ref ha5)) (by decide) (by decide) k)
      show Gl _ _ _ _ (T4.setTop (mkF m 23 #[.val (.ref a), .val (.ref a)] []))
      obtain ⟨T6, X6, e6, st6⟩ := getS2 X4 hx hZ hown (host := "") (Or.inl (hw _ (List.mem_of_getElem? (i := 17) rfl))) Via.refl e4 S_L (g := (mkF m 23 #[.val (.ref a), .val (.ref a)] [])) rfl (hb hby d1_23)
      refine Gl.go ?_ st6
      show Gl _ _ _ _ (T6.setTop (mkF m 26 #[.val (.ref a), .val (.ref a)] [(.ref aL)]))
      refine Gl.go ?_ (fun t k => XS.astoreN X6.here hx rfl (hb hby d1_26) rfl rfl (l' := #[.val (.ref a), .val (.ref aL)]) rfl k)
      show Gl _ _ _ _ (T6.setTop (mkF m 27 #[.val (.ref a), .val (.ref aL)] []))
      refine Gl.go ?_ (fun t k => XS.aloadN X6.here hx rfl (hb hby d1_27) rfl rfl k)
      show Gl _ _ _ _ (T6.setTop (mkF m 28 #[.val (.ref a), .val (.ref aL)] [(.ref aL)]))
      obtain ⟨fs, hr, hrun, hended, hW, hsame⟩ := X6.leave (v := some (.ref aL)) (fun h => by rw [Bd.returns] at h; cases h)
      exact Gl.mk ⟨_, _, retOut X6 hx Bd.returns rfl (Or.inr (Or.inr (Or.inr (Or.inr ⟨rfl, rfl, rfl⟩)))) (hb hby d1_28) hr, hrun, hended, _, _, rfl, ⟨congrArg (fun z => some (Value.ref z)) ((if_neg ha2).trans ((if_pos ha5).trans (rfl))).symm, rfl, e6⟩, ⟨_, rfl⟩, hW, hsame.mono (by decide) (by decide)⟩
    · refine Gl.go ?_ (fun t k => Jvm.RoadKit.acmp (g := (mkF m 20 #[.val (.ref a), .val (.ref a)] [(.ref aG), (.ref a)])) X4 hx rfl rfl rfl (pc0 := 20) (pc' := 27) (same := false) rfl (hb hby d1_20) rfl (decide_eq_false fun q => ha5 (Value.ref.inj q)) (by decide) (by decide) k)
      show Gl _ _ _ _ (T4.setTop (mkF m 27 #[.val (.ref a), .val (.ref a)] []))
      refine Gl.go ?_ (fun t k => XS.aloadN X4.here hx rfl (hb hby d1_27) rfl rfl k)
      show Gl _ _ _ _ (T4.setTop (mkF m 28 #[.val (.ref a), .val (.ref a)] [(.ref a)]))
      obtain ⟨fs, hr, hrun, hended, hW, hsame⟩ := X4.leave (v := some (.ref a)) (fun h => by rw [Bd.returns] at h; cases h)
      exact Gl.mk ⟨_, _, retOut X4 hx Bd.returns rfl (Or.inr (Or.inr (Or.inr (Or.inr ⟨rfl, rfl, rfl⟩)))) (hb hby d1_28) hr, hrun, hended, _, _, rfl, ⟨congrArg (fun z => some (Value.ref z)) ((if_neg ha2).trans ((if_neg ha5).trans (rfl))).symm, rfl, e4⟩, ⟨_, rfl⟩, hW, hsame.mono (by decide) (by decide)⟩
theorem d2_0 : decode method_2_code 0 = .ok (.iload_n 0, 1) := by decide +kernel
theorem d2_1 : decode method_2_code 1 = .ok (.iload_n 1, 1) := by decide +kernel
theorem d2_2 : decode method_2_code 2 = .ok (.if_icmp .ge 5, 3) := by decide +kernel
theorem d2_5 : decode method_2_code 5 = .ok (.iconst (-1), 1) := by decide +kernel
theorem d2_6 : decode method_2_code 6 = .ok (.ireturn, 1) := by decide +kernel
theorem d2_7 : decode method_2_code 7 = .ok (.iload_n 0, 1) := by decide +kernel
theorem d2_8 : decode method_2_code 8 = .ok (.iload_n 1, 1) := by decide +kernel
theorem d2_9 : decode method_2_code 9 = .ok (.if_icmp .le 5, 3) := by decide +kernel
theorem d2_12 : decode method_2_code 12 = .ok (.iconst 1, 1) := by decide +kernel
theorem d2_13 : decode method_2_code 13 = .ok (.ireturn, 1) := by decide +kernel
theorem d2_14 : decode method_2_code 14 = .ok (.iconst 0, 1) := by decide +kernel
theorem d2_15 : decode method_2_code 15 = .ok (.ireturn, 1) := by decide +kernel
theorem pn_2 : plainName "com/example/facet/facet/datatypes/OrderReversePinLaw" = true := by first | (simp [plainName, overriddenIn]; done) | decide +kernel
def f_cmp (u v : Int32) : Int32 := (if u < v then (-1 : Int32) else (if v < u then (1 : Int32) else (0 : Int32)))
theorem ef_rm2 (m : MethodId) (x0 : Int32) (x1 : Int32) : entryFrame m #[(.int x0), (.int x1)] 2 = mkF m 0 #[.val (.int x0), .val (.int x1)] [] := by first | (simp [entryFrame, mkF, argsToLocals, Value.category]; done) | rfl
set_option maxRecDepth 65536 in
set_option maxHeartbeats 40000000 in
theorem rm2 (l : Launch) (Z : State) (a0 : Array Value) (hw : ∀ d ∈ tables_1, d.before a0 Z = true) (ws : List Jvm.Cond) (u : Int32) (v : Int32)  (h0 : Heap)  :
    MetFree l (⟨"com/example/facet/facet/datatypes/OrderReversePinLaw", "cmp", "(II)I"⟩ : MethodName) (head1 (Jvm.Cond.code (⟨"com/example/facet/facet/datatypes/OrderReversePinLaw", "cmp", "(II)I"⟩ : MethodName) method_2_code 2 (some .int) :: ws) ({ frames := 0, cells := 0, slots := 0, locals := 0 } : Room)) (fun aQ U => aQ = #[(.int u), (.int v)] ∧ Z.Warmed39 U.vm ∧ U.heap = h0) (fun _ _ _ _ _ => True) (fun _ U o U' => ∃ vQ LQ, o = .returned vQ ∧ PQ (some (.int (f_cmp u v))) h0 vQ U'.heap LQ ∧ FrameEnd U o U' LQ ({ frames := 0, cells := 0, slots := 0, locals := 0 } : Room).cells ({ frames := 0, cells := 0, slots := 0, locals := 0 } : Room).slots) := by
  refine MetFree.of_bodySF (plainFor_of_name pn_2) hisR ?_
  intro p e s m args below meth c s₁ Bd hml0 hP hK
  obtain ⟨rfl, hZ, hh⟩ := hP
  have hx := Bd.exec
  have hby := Bd.bytes
  have hml : c.maxLocals = 2 := hml0
  have hown : s.vm.findClass "com/example/facet/facet/datatypes/OrderReversePinLaw" = some m.cls := findClass_of_methodNamed Bd.named
  have hnm := (name_of_methodNamed Bd.named Bd.method).1
  have X0 : Stand p l e ({ frames := 0, cells := 0, slots := 0, locals := 0 } : Room) s m #[(.int u), (.int v)] below meth c s₁ [] 0 0 := Stand.of_body Bd
  have e0 : s₁.heap = h0 := by rw [← hh, Bd.state]; rfl
  refine Gl.out ?_
  refine Gl.go ?_ (fun t k => castTop (ef_rm2 m u v) k)
  show Gl _ _ _ _ (s₁.setTop (mkF m 0 #[.val (.int u), .val (.int v)] []))
  refine Gl.go ?_ (fun t k => XS.iloadN X0.here hx rfl (hb hby d2_0) rfl k)
  show Gl _ _ _ _ (s₁.setTop (mkF m 1 #[.val (.int u), .val (.int v)] [(.int u)]))
  refine Gl.go ?_ (fun t k => XS.iloadN X0.here hx rfl (hb hby d2_1) rfl k)
  show Gl _ _ _ _ (s₁.setTop (mkF m 2 #[.val (.int u), .val (.int v)] [(.int v), (.int u)]))
  by_cases hc7 : u < v
  · refine Gl.go ?_ (fun t k => XS.icmpNo X0.here hx rfl (hb hby d2_2) rfl (tlt hc7).2.1 k)
    show Gl _ _ _ _ (s₁.setTop (mkF m 5 #[.val (.int u), .val (.int v)] []))
    refine Gl.go ?_ (fun t k => XS.iconst X0.here hx rfl (hb hby d2_5) k)
    show Gl _ _ _ _ (s₁.setTop (mkF m 6 #[.val (.int u), .val (.int v)] [(.int (-1 : Int32))]))
    obtain ⟨fs, hr, hrun, hended, hW, hsame⟩ := X0.leave (v := some (.int (-1 : Int32))) (fun h => by rw [Bd.returns] at h; cases h)
    exact Gl.mk ⟨_, _, retI X0 hx Bd.returns (hb hby d2_6) hr, hrun, hended, _, _, rfl, ⟨congrArg (fun z => some (Value.int z)) ((if_pos hc7).trans (rfl)).symm, rfl, e0⟩, ⟨_, rfl⟩, hW, hsame.mono (by decide) (by decide)⟩
  · refine Gl.go ?_ (fun t k => XS.icmpYes X0.here hx rfl (pc0 := 2) (pc' := 7) rfl (hb hby d2_2) rfl (flt hc7).2.1 (by decide) (by decide) k)
    show Gl _ _ _ _ (s₁.setTop (mkF m 7 #[.val (.int u), .val (.int v)] []))
    refine Gl.go ?_ (fun t k => XS.iloadN X0.here hx rfl (hb hby d2_7) rfl k)
    show Gl _ _ _ _ (s₁.setTop (mkF m 8 #[.val (.int u), .val (.int v)] [(.int u)]))
    refine Gl.go ?_ (fun t k => XS.iloadN X0.here hx rfl (hb hby d2_8) rfl k)
    show Gl _ _ _ _ (s₁.setTop (mkF m 9 #[.val (.int u), .val (.int v)] [(.int v), (.int u)]))
    by_cases hc8 : v < u
    · refine Gl.go ?_ (fun t k => XS.icmpNo X0.here hx rfl (hb hby d2_9) rfl (tlt hc8).2.2.2 k)
      show Gl _ _ _ _ (s₁.setTop (mkF m 12 #[.val (.int u), .val (.int v)] []))
      refine Gl.go ?_ (fun t k => XS.iconst X0.here hx rfl (hb hby d2_12) k)
      show Gl _ _ _ _ (s₁.setTop (mkF m 13 #[.val (.int u), .val (.int v)] [(.int (1 : Int32))]))
      obtain ⟨fs, hr, hrun, hended, hW, hsame⟩ := X0.leave (v := some (.int (1 : Int32))) (fun h => by rw [Bd.returns] at h; cases h)
      exact Gl.mk ⟨_, _, retI X0 hx Bd.returns (hb hby d2_13) hr, hrun, hended, _, _, rfl, ⟨congrArg (fun z => some (Value.int z)) ((if_neg hc7).trans ((if_pos hc8).trans (rfl))).symm, rfl, e0⟩, ⟨_, rfl⟩, hW, hsame.mono (by decide) (by decide)⟩
    · refine Gl.go ?_ (fun t k => XS.icmpYes X0.here hx rfl (pc0 := 9) (pc' := 14) rfl (hb hby d2_9) rfl (flt hc8).2.2.2 (by decide) (by decide) k)
      show Gl _ _ _ _ (s₁.setTop (mkF m 14 #[.val (.int u), .val (.int v)] []))
      refine Gl.go ?_ (fun t k => XS.iconst X0.here hx rfl (hb hby d2_14) k)
      show Gl _ _ _ _ (s₁.setTop (mkF m 15 #[.val (.int u), .val (.int v)] [(.int (0 : Int32))]))
      obtain ⟨fs, hr, hrun, hended, hW, hsame⟩ := X0.leave (v := some (.int (0 : Int32))) (fun h => by rw [Bd.returns] at h; cases h)
      exact Gl.mk ⟨_, _, retI X0 hx Bd.returns (hb hby d2_15) hr, hrun, hended, _, _, rfl, ⟨congrArg (fun z => some (Value.int z)) ((if_neg hc7).trans ((if_neg hc8).trans (rfl))).symm, rfl, e0⟩, ⟨_, rfl⟩, hW, hsame.mono (by decide) (by decide)⟩
theorem d3_0 : decode prog_133_method_4_code 0 = .ok (.getstatic 7, 3) := by decide +kernel
theorem d3_3 : decode prog_133_method_4_code 3 = .ok (.astore_n 1, 1) := by decide +kernel
theorem d3_4 : decode prog_133_method_4_code 4 = .ok (.iload_n 0, 1) := by decide +kernel
theorem d3_5 : decode prog_133_method_4_code 5 = .ok (.ifCond .ge 10, 3) := by decide +kernel
theorem d3_8 : decode prog_133_method_4_code 8 = .ok (.getstatic 3, 3) := by decide +kernel
theorem d3_11 : decode prog_133_method_4_code 11 = .ok (.astore_n 1, 1) := by decide +kernel
theorem d3_12 : decode prog_133_method_4_code 12 = .ok (.goto 11, 3) := by decide +kernel
theorem d3_15 : decode prog_133_method_4_code 15 = .ok (.iload_n 0, 1) := by decide +kernel
theorem d3_16 : decode prog_133_method_4_code 16 = .ok (.ifCond .le 7, 3) := by decide +kernel
theorem d3_19 : decode prog_133_method_4_code 19 = .ok (.getstatic 10, 3) := by decide +kernel
theorem d3_22 : decode prog_133_method_4_code 22 = .ok (.astore_n 1, 1) := by decide +kernel
theorem d3_23 : decode prog_133_method_4_code 23 = .ok (.aload_n 1, 1) := by decide +kernel
theorem d3_24 : decode prog_133_method_4_code 24 = .ok (.areturn, 1) := by decide +kernel
theorem pn_3 : plainName "com/example/facet/facet/datatypes/Order" = true := by first | (simp [plainName, overriddenIn]; done) | decide +kernel
def f_of (u : Int32) (aL aE aG : Addr) : Addr := (if u < (0 : Int32) then aL else (if (0 : Int32) < u then aG else aE))
theorem ef_rm3 (m : MethodId) (x0 : Int32) : entryFrame m #[(.int x0)] 2 = mkF m 0 #[.val (.int x0), .unset] [] := by first | (simp [entryFrame, mkF, argsToLocals, Value.category]; done) | rfl
set_option maxRecDepth 65536 in
set_option maxHeartbeats 40000000 in
theorem rm3 (l : Launch) (Z : State) (a0 : Array Value) (hw : ∀ d ∈ tables_1, d.before a0 Z = true) (ws : List Jvm.Cond) (u : Int32) (aL aE aG : Addr) (h0 : Heap) (S_L : Sta Z h0 "com/example/facet/facet/datatypes/Order" "LESS" "Lcom/example/facet/facet/datatypes/Order;" (.ref aL)) (S_E : Sta Z h0 "com/example/facet/facet/datatypes/Order" "EQUAL" "Lcom/example/facet/facet/datatypes/Order;" (.ref aE)) (S_G : Sta Z h0 "com/example/facet/facet/datatypes/Order" "GREATER" "Lcom/example/facet/facet/datatypes/Order;" (.ref aG)) :
    MetFree l (⟨"com/example/facet/facet/datatypes/Order", "of", "(I)Lcom/example/facet/facet/datatypes/Order;"⟩ : MethodName) (head1 (Jvm.Cond.code (⟨"com/example/facet/facet/datatypes/Order", "of", "(I)Lcom/example/facet/facet/datatypes/Order;"⟩ : MethodName) prog_133_method_4_code 2 (some (.object "com/example/facet/facet/datatypes/Order")) :: ws) ({ frames := 0, cells := 0, slots := 0, locals := 0 } : Room)) (fun aQ U => aQ = #[(.int u)] ∧ Z.Warmed39 U.vm ∧ U.heap = h0) (fun _ _ _ _ _ => True) (fun _ U o U' => ∃ vQ LQ, o = .returned vQ ∧ PQ (some (.ref (f_of u aL aE aG))) h0 vQ U'.heap LQ ∧ FrameEnd U o U' LQ ({ frames := 0, cells := 0, slots := 0, locals := 0 } : Room).cells ({ frames := 0, cells := 0, slots := 0, locals := 0 } : Room).slots) := by
  refine MetFree.of_bodySF (plainFor_of_name pn_3) hisR ?_
  intro p e s m args below meth c s₁ Bd hml0 hP hK
  obtain ⟨rfl, hZ, hh⟩ := hP
  have hx := Bd.exec
  have hby := Bd.bytes
  have hml : c.maxLocals = 2 := hml0
  have hown : s.vm.findClass "com/example/facet/facet/datatypes/Order" = some m.cls := findClass_of_methodNamed Bd.named
  have hnm := (name_of_methodNamed Bd.named Bd.method).1
  have X0 : Stand p l e ({ frames := 0, cells := 0, slots := 0, locals := 0 } : Room) s m #[(.int u)] below meth c s₁ [] 0 0 := Stand.of_body Bd
  have e0 : s₁.heap = h0 := by rw [← hh, Bd.state]; rfl
  refine Gl.out ?_
  refine Gl.go ?_ (fun t k => castTop (ef_rm3 m u) k)
  show Gl _ _ _ _ (s₁.setTop (mkF m 0 #[.val (.int u), .unset] []))
  obtain ⟨T9, X9, e9, st9⟩ := getS2 X0 hx hZ hown (host := "") (Or.inl (hw _ (List.mem_of_getElem? (i := 26) rfl))) Via.refl e0 S_E (g := (mkF m 0 #[.val (.int u), .unset] [])) rfl (hb hby d3_0)
  refine Gl.go ?_ st9
  show Gl _ _ _ _ (T9.setTop (mkF m 3 #[.val (.int u), .unset] [(.ref aE)]))
  refine Gl.go ?_ (fun t k => XS.astoreN X9.here hx rfl (hb hby d3_3) rfl rfl (l' := #[.val (.int u), .val (.ref aE)]) rfl k)
  show Gl _ _ _ _ (T9.setTop (mkF m 4 #[.val (.int u), .val (.ref aE)] []))
  refine Gl.go ?_ (fun t k => XS.iloadN X9.here hx rfl (hb hby d3_4) rfl k)
  show Gl _ _ _ _ (T9.setTop (mkF m 5 #[.val (.int u), .val (.ref aE)] [(.int u)]))
  by_cases hc10 : u < (0 : Int32)
  · refine Gl.go ?_ (fun t k => XS.ifNo X9.here hx rfl (hb hby d3_5) rfl ((if0 _ _).trans (tlt hc10).2.1) k)
    show Gl _ _ _ _ (T9.setTop (mkF m 8 #[.val (.int u), .val (.ref aE)] []))
    obtain ⟨T11, X11, e11, st11⟩ := getS2 X9 hx hZ hown (host := "") (Or.inl (hw _ (List.mem_of_getElem? (i := 17) rfl))) Via.refl e9 S_L (g := (mkF m 8 #[.val (.int u), .val (.ref aE)] [])) rfl (hb hby d3_8)
    refine Gl.go ?_ st11
    show Gl _ _ _ _ (T11.setTop (mkF m 11 #[.val (.int u), .val (.ref aE)] [(.ref aL)]))
    refine Gl.go ?_ (fun t k => XS.astoreN X11.here hx rfl (hb hby d3_11) rfl rfl (l' := #[.val (.int u), .val (.ref aL)]) rfl k)
    show Gl _ _ _ _ (T11.setTop (mkF m 12 #[.val (.int u), .val (.ref aL)] []))
    refine Gl.go ?_ (fun t k => XS.goto X11.here hx rfl (pc0 := 12) (pc' := 23) rfl (hb hby d3_12) (by decide) (by decide) k)
    show Gl _ _ _ _ (T11.setTop (mkF m 23 #[.val (.int u), .val (.ref aL)] []))
    refine Gl.go ?_ (fun t k => XS.aloadN X11.here hx rfl (hb hby d3_23) rfl rfl k)
    show Gl _ _ _ _ (T11.setTop (mkF m 24 #[.val (.int u), .val (.ref aL)] [(.ref aL)]))
    obtain ⟨fs, hr, hrun, hended, hW, hsame⟩ := X11.leave (v := some (.ref aL)) (fun h => by rw [Bd.returns] at h; cases h)
    exact Gl.mk ⟨_, _, retOut X11 hx Bd.returns rfl (Or.inr (Or.inr (Or.inr (Or.inr ⟨rfl, rfl, rfl⟩)))) (hb hby d3_24) hr, hrun, hended, _, _, rfl, ⟨congrArg (fun z => some (Value.ref z)) ((if_pos hc10).trans (rfl)).symm, rfl, e11⟩, ⟨_, rfl⟩, hW, hsame.mono (by decide) (by decide)⟩
  · refine Gl.go ?_ (fun t k => XS.ifYes X9.here hx rfl (pc0 := 5) (pc' := 15) rfl (hb hby d3_5) rfl ((if0 _ _).trans (flt hc10).2.1) (by decide) (by decide) k)
    show Gl _ _ _ _ (T9.setTop (mkF m 15 #[.val (.int u), .val (.ref aE)] []))
    refine Gl.go ?_ (fun t k => XS.iloadN X9.here hx rfl (hb hby d3_15) rfl k)
    show Gl _ _ _ _ (T9.setTop (mkF m 16 #[.val (.int u), .val (.ref aE)] [(.int u)]))
    by_cases hc12 : (0 : Int32) < u
    · refine Gl.go ?_ (fun t k => XS.ifNo X9.here hx rfl (hb hby d3_16) rfl ((if0 _ _).trans (tlt hc12).2.2.2) k)
      show Gl _ _ _ _ (T9.setTop (mkF m 19 #[.val (.int u), .val (.ref aE)] []))
      obtain ⟨T13, X13, e13, st13⟩ := getS2 X9 hx hZ hown (host := "") (Or.inl (hw _ (List.mem_of_getElem? (i := 18) rfl))) Via.refl e9 S_G (g := (mkF m 19 #[.val (.int u), .val (.ref aE)] [])) rfl (hb hby d3_19)
      refine Gl.go ?_ st13
      show Gl _ _ _ _ (T13.setTop (mkF m 22 #[.val (.int u), .val (.ref aE)] [(.ref aG)]))
      refine Gl.go ?_ (fun t k => XS.astoreN X13.here hx rfl (hb hby d3_22) rfl rfl (l' := #[.val (.int u), .val (.ref aG)]) rfl k)
      show Gl _ _ _ _ (T13.setTop (mkF m 23 #[.val (.int u), .val (.ref aG)] []))
      refine Gl.go ?_ (fun t k => XS.aloadN X13.here hx rfl (hb hby d3_23) rfl rfl k)
      show Gl _ _ _ _ (T13.setTop (mkF m 24 #[.val (.int u), .val (.ref aG)] [(.ref aG)]))
      obtain ⟨fs, hr, hrun, hended, hW, hsame⟩ := X13.leave (v := some (.ref aG)) (fun h => by rw [Bd.returns] at h; cases h)
      exact Gl.mk ⟨_, _, retOut X13 hx Bd.returns rfl (Or.inr (Or.inr (Or.inr (Or.inr ⟨rfl, rfl, rfl⟩)))) (hb hby d3_24) hr, hrun, hended, _, _, rfl, ⟨congrArg (fun z => some (Value.ref z)) ((if_neg hc10).trans ((if_pos hc12).trans (rfl))).symm, rfl, e13⟩, ⟨_, rfl⟩, hW, hsame.mono (by decide) (by decide)⟩
    · refine Gl.go ?_ (fun t k => XS.ifYes X9.here hx rfl (pc0 := 16) (pc' := 23) rfl (hb hby d3_16) rfl ((if0 _ _).trans (flt hc12).2.2.2) (by decide) (by decide) k)
      show Gl _ _ _ _ (T9.setTop (mkF m 23 #[.val (.int u), .val (.ref aE)] []))
      refine Gl.go ?_ (fun t k => XS.aloadN X9.here hx rfl (hb hby d3_23) rfl rfl k)
      show Gl _ _ _ _ (T9.setTop (mkF m 24 #[.val (.int u), .val (.ref aE)] [(.ref aE)]))
      obtain ⟨fs, hr, hrun, hended, hW, hsame⟩ := X9.leave (v := some (.ref aE)) (fun h => by rw [Bd.returns] at h; cases h)
      exact Gl.mk ⟨_, _, retOut X9 hx Bd.returns rfl (Or.inr (Or.inr (Or.inr (Or.inr ⟨rfl, rfl, rfl⟩)))) (hb hby d3_24) hr, hrun, hended, _, _, rfl, ⟨congrArg (fun z => some (Value.ref z)) ((if_neg hc10).trans ((if_neg hc12).trans (rfl))).symm, rfl, e9⟩, ⟨_, rfl⟩, hW, hsame.mono (by decide) (by decide)⟩
theorem own_rev {P : Addr → Prop} {a aL aG : Addr} (h : P a) (hL : P aL) (hG : P aG) : P (f_rev a aL aG) := by
  unfold f_rev; split
  · exact hG
  · split
    · exact hL
    · exact h
theorem own_of {P : Addr → Prop} (u : Int32) {aL aE aG : Addr} (hL : P aL) (hE : P aE) (hG : P aG) : P (f_of u aL aE aG) := by
  unfold f_of; split
  · exact hL
  · split
    · exact hG
    · exact hE
theorem own_inv (a : Addr) {aL aG : Addr} (h : aL ≠ aG) : f_rev (f_rev a aL aG) aL aG = a := by
  by_cases h1 : a = aL
  · subst h1; simp [f_rev, h.symm]
  · by_cases h2 : a = aG
    · subst h2; simp [f_rev, h1]
    · simp [f_rev, h1, h2]
theorem own_fix {a aL aG aI : Addr} (h : a = aI) (h1 : aL ≠ aI) (h2 : aG ≠ aI) : f_rev a aL aG = aI := by
  subst h; simp [f_rev, h1.symm, h2.symm]
theorem own_swap (u v : Int32) {aL aE aG : Addr} (h1 : aL ≠ aG) (h2 : aL ≠ aE) (h3 : aG ≠ aE) : f_rev (f_of (f_cmp u v) aL aE aG) aL aG = f_of (f_cmp v u) aL aE aG := by
  have n1 : ¬ ((1 : Int32) < 0) := by decide
  have n2 : ¬ ((0 : Int32) < 0) := by decide
  have n3 : ((-1 : Int32) < 0) := by decide
  have n4 : ((0 : Int32) < 1) := by decide
  by_cases q1 : u < v
  · have q2 : ¬ v < u := by rw [Int32.lt_iff_toInt_lt] at *; omega
    simp [f_rev, f_of, f_cmp, q1, q2, n1, n2, n3, n4, h1.symm]
  · by_cases q2 : v < u
    · simp [f_rev, f_of, f_cmp, q1, q2, n1, n2, n3, n4, h1.symm]
    · simp [f_rev, f_of, f_cmp, q1, q2, n1, n2, n3, n4, h2.symm, h3.symm]
def own_A (aL aE aG aI : Addr) (n : Nat) : Addr := [aL, aE, aG, aI].getD n aL
theorem own_A4 {P : Addr → Prop} {aL aE aG aI : Addr} (h1 : P aL) (h2 : P aE) (h3 : P aG) (h4 : P aI) (n : Nat) : P (own_A aL aE aG aI n) := by
  match n with
  | 0 => exact h1
  | 1 => exact h2
  | 2 => exact h3
  | 3 => exact h4
  | k + 4 => exact h1
theorem pn_0 : plainName "com/example/facet/facet/datatypes/OrderReversePinLaw" = true := by first | (simp [plainName, overriddenIn]; done) | decide +kernel
theorem pd_0 : parseMethodDescriptor "()Lcom/example/facet/facet/datatypes/Order;" = some ⟨[], some (.object "com/example/facet/facet/datatypes/Order")⟩ := by decide +kernel
theorem pd_1 : parseMethodDescriptor "(II)I" = some ⟨[.int, .int], some .int⟩ := by decide +kernel
theorem pd_2 : parseMethodDescriptor "(I)Lcom/example/facet/facet/datatypes/Order;" = some ⟨[.int], some (.object "com/example/facet/facet/datatypes/Order")⟩ := by decide +kernel
def f_law (aL aE aG aI : Addr) (n : Nat) : Int32 := (if (own_A aL aE aG aI n) = aI then (1 : Int32) else (1 : Int32))
theorem ef_rm0 (m : MethodId) (x0 : Int32) (x1 : Int32) (x2 : Int32) : entryFrame m #[(.int x0), (.int x1), (.int x2)] maxLocals = mkF m 0 #[.val (.int x0), .val (.int x1), .val (.int x2), .unset, .unset, .unset, .unset, .unset, .unset, .unset, .unset] [] := by first | (simp [entryFrame, mkF, argsToLocals, Value.category, maxLocals]; done) | rfl
set_option maxRecDepth 65536 in
set_option maxHeartbeats 40000000 in
theorem rm0 (l : Launch) (Z : State) (a0 : Array Value) (hw : ∀ d ∈ tables_1, d.before a0 Z = true) (ws : List Jvm.Cond) (u : Int32) (v : Int32) (kk : Int32) (aL aE aG aI : Addr) (n : Nat) (h0 : Heap) (n0 : Nat) (Z0 : n0 ≤ h0.size) (S_L : Sta Z h0 "com/example/facet/facet/datatypes/Order" "LESS" "Lcom/example/facet/facet/datatypes/Order;" (.ref aL)) (S_E : Sta Z h0 "com/example/facet/facet/datatypes/Order" "EQUAL" "Lcom/example/facet/facet/datatypes/Order;" (.ref aE)) (S_G : Sta Z h0 "com/example/facet/facet/datatypes/Order" "GREATER" "Lcom/example/facet/facet/datatypes/Order;" (.ref aG)) (S_I : Sta Z h0 "com/example/facet/facet/datatypes/Order" "INDETERMINATE" "Lcom/example/facet/facet/datatypes/Order;" (.ref aI)) (E_L : Exa Z h0 aL "com/example/facet/facet/datatypes/Order") (E_E : Exa Z h0 aE "com/example/facet/facet/datatypes/Order") (E_G : Exa Z h0 aG "com/example/facet/facet/datatypes/Order") (E_I : Exa Z h0 aI "com/example/facet/facet/datatypes/Order") (hLG : aL ≠ aG) (hLE : aL ≠ aE) (hGE : aG ≠ aE) (hLI : aL ≠ aI) (hGI : aG ≠ aI) (hj1 : ¬ (kk &&& (3 : Int32)) < 0) (hj2 : (kk &&& (3 : Int32)) < 4) (hj3 : ([.ref aL, .ref aE, .ref aG, .ref aI] : List Value).getD (kk &&& (3 : Int32)).toNatClampNeg .null = .ref (own_A aL aE aG aI n)) :
    MetFree l x (head1 (Jvm.Cond.code x code maxLocals ret :: ws) room_1) (fun aQ U => aQ = #[(.int u), (.int v), (.int kk)] ∧ Z.Warmed39 U.vm ∧ U.heap = h0) (fun _ _ _ _ _ => True) (fun _ U o U' => ∃ vQ LQ, o = .returned vQ ∧ (vQ = some (.int (f_law aL aE aG aI n)) ∧ Fr n0 LQ) ∧ FrameEnd U o U' LQ room_1.cells room_1.slots) := by
  refine MetFree.of_bodySF (plainFor_of_name pn_0) hisR ?_
  intro p e s m args below meth c s₁ Bd hml0 hP hK
  obtain ⟨rfl, hZ, hh⟩ := hP
  have hx := Bd.exec
  have hby := Bd.bytes
  have hml : c.maxLocals = 11 := hml0
  have hown : s.vm.findClass "com/example/facet/facet/datatypes/OrderReversePinLaw" = some m.cls := findClass_of_methodNamed Bd.named
  have hnm := (name_of_methodNamed Bd.named Bd.method).1
  have X0 : Stand p l e room_1 s m #[(.int u), (.int v), (.int kk)] below meth c s₁ [] 0 0 := Stand.of_body Bd
  have e0 : s₁.heap = h0 := by rw [← hh, Bd.state]; rfl
  have NF := Fr.nil n0
  refine Gl.out ?_
  refine Gl.go ?_ (fun t k => castTop (ef_rm0 m u v kk) k)
  show Gl _ _ _ _ (s₁.setTop (mkF m 0 #[.val (.int u), .val (.int v), .val (.int kk), .unset, .unset, .unset, .unset, .unset, .unset, .unset, .unset] []))
  refine Gl.go ?_ (fun t k => XS.iconst X0.here hx rfl (hb hby at_0) k)
  show Gl _ _ _ _ (s₁.setTop (mkF m 1 #[.val (.int u), .val (.int v), .val (.int kk), .unset, .unset, .unset, .unset, .unset, .unset, .unset, .unset] [(.int (4 : Int32))]))
  obtain ⟨T14, h14, k14, X14, e14, E14, A14, O14, st14⟩ := newR X0 hx hZ hown (hw _ (List.mem_of_getElem? (i := 0) rfl)) (hw _ (List.mem_of_getElem? (i := 1) rfl)) e0 (g := (mkF m 1 #[.val (.int u), .val (.int v), .val (.int kk), .unset, .unset, .unset, .unset, .unset, .unset, .unset, .unset] [(.int (4 : Int32))])) rfl (hb hby at_1) rfl (by decide) (cap := 4) (by decide) (by decide) (by decide) (by decide)
  obtain ⟨b14, g14⟩ : ∃ z, z = h0.size := ⟨_, rfl⟩
  rw [← g14] at A14 st14
  have g_b14 : n0 ≤ b14 := Nat.le_trans Z0 (Nat.le_of_eq g14.symm)
  have ne_aL_b14 : aL ≠ b14 := Nat.ne_of_lt (Nat.lt_of_lt_of_le E_L.lt (Nat.le_of_eq g14.symm))
  have ne_aE_b14 : aE ≠ b14 := Nat.ne_of_lt (Nat.lt_of_lt_of_le E_E.lt (Nat.le_of_eq g14.symm))
  have ne_aG_b14 : aG ≠ b14 := Nat.ne_of_lt (Nat.lt_of_lt_of_le E_G.lt (Nat.le_of_eq g14.symm))
  have ne_aI_b14 : aI ≠ b14 := Nat.ne_of_lt (Nat.lt_of_lt_of_le E_I.lt (Nat.le_of_eq g14.symm))
  have S_L := S_L.ext E14
  have S_E := S_E.ext E14
  have S_G := S_G.ext E14
  have S_I := S_I.ext E14
  have E_L := E_L.ext E14
  have E_E := E_E.ext E14
  have E_G := E_G.ext E14
  have E_I := E_I.ext E14
  have Z0 := Nat.le_trans Z0 E14.1
  have V_b14 : Arv Z h14 b14 k14 (.object "com/example/facet/facet/datatypes/Order") (4 : Int32) [.null, .null, .null, .null] .null := (Arv.new A14 (by decide)).pad (pad_rep [] .null 4)
  refine Gl.go ?_ st14
  show Gl _ _ _ _ (T14.setTop (mkF m 4 #[.val (.int u), .val (.int v), .val (.int kk), .unset, .unset, .unset, .unset, .unset, .unset, .unset, .unset] [(.ref b14)]))
  refine Gl.go ?_ (fun t k => XS.dup X14.here hx rfl (hb hby at_4) rfl rfl k)
  show Gl _ _ _ _ (T14.setTop (mkF m 5 #[.val (.int u), .val (.int v), .val (.int kk), .unset, .unset, .unset, .unset, .unset, .unset, .unset, .unset] [(.ref b14), (.ref b14)]))
  refine Gl.go ?_ (fun t k => XS.iconst X14.here hx rfl (hb hby at_5) k)
  show Gl _ _ _ _ (T14.setTop (mkF m 6 #[.val (.int u), .val (.int v), .val (.int kk), .unset, .unset, .unset, .unset, .unset, .unset, .unset, .unset] [(.int (0 : Int32)), (.ref b14), (.ref b14)]))
  obtain ⟨T15, X15, e15, st15⟩ := getS2 X14 hx hZ hown (host := "") (Or.inl (hw _ (List.mem_of_getElem? (i := 2) rfl))) Via.refl e14 S_L (g := (mkF m 6 #[.val (.int u), .val (.int v), .val (.int kk), .unset, .unset, .unset, .unset, .unset, .unset, .unset, .unset] [(.int (0 : Int32)), (.ref b14), (.ref b14)])) rfl (hb hby at_6)
  refine Gl.go ?_ st15
  show Gl _ _ _ _ (T15.setTop (mkF m 9 #[.val (.int u), .val (.int v), .val (.int kk), .unset, .unset, .unset, .unset, .unset, .unset, .unset, .unset] [(.ref aL), (.int (0 : Int32)), (.ref b14), (.ref b14)]))
  obtain ⟨cl16, Ar16, q16, S16, N16, Hh16, G16⟩ := V_b14
  obtain ⟨T16, h16, X16, e16, W16, st16⟩ := stR X15 hx hZ e15 Ar16 (j := (0 : Int32)) (inb_of S16 ⟨by decide, by decide⟩) rfl (Sto.ofV Ar16 q16 O14 (Ins.self E_L)) (g := (mkF m 9 #[.val (.int u), .val (.int v), .val (.int kk), .unset, .unset, .unset, .unset, .unset, .unset, .unset, .unset] [(.ref aL), (.int (0 : Int32)), (.ref b14), (.ref b14)])) rfl rfl (hb hby at_9)
  have S_L := S_L.wr W16
  have S_E := S_E.wr W16
  have S_G := S_G.wr W16
  have S_I := S_I.wr W16
  have E_L := E_L.wr W16
  have E_E := E_E.wr W16
  have E_G := E_G.wr W16
  have E_I := E_I.wr W16
  have Z0 := Nat.le_trans Z0 (Keep.of_wr W16).1
  have V_b14 : Arv Z h16 b14 k14 (.object "com/example/facet/facet/datatypes/Order") (4 : Int32) [(.ref aL), .null, .null, .null] .null := Arv.set Ar16 q16 S16 N16 Hh16 G16 rfl W16 0 rfl (Nat.le_of_ble_eq_true rfl)
  have NF := Fr.snoc X16 NF g_b14
  refine Gl.go ?_ st16
  show Gl _ _ _ _ (T16.setTop (mkF m 10 #[.val (.int u), .val (.int v), .val (.int kk), .unset, .unset, .unset, .unset, .unset, .unset, .unset, .unset] [(.ref b14)]))
  refine Gl.go ?_ (fun t k => XS.dup X16.here hx rfl (hb hby at_10) rfl rfl k)
  show Gl _ _ _ _ (T16.setTop (mkF m 11 #[.val (.int u), .val (.int v), .val (.int kk), .unset, .unset, .unset, .unset, .unset, .unset, .unset, .unset] [(.ref b14), (.ref b14)]))
  refine Gl.go ?_ (fun t k => XS.iconst X16.here hx rfl (hb hby at_11) k)
  show Gl _ _ _ _ (T16.setTop (mkF m 12 #[.val (.int u), .val (.int v), .val (.int kk), .unset, .unset, .unset, .unset, .unset, .unset, .unset, .unset] [(.int (1 : Int32)), (.ref b14), (.ref b14)]))
  obtain ⟨T17, X17, e17, st17⟩ := getS2 X16 hx hZ hown (host := "") (Or.inl (hw _ (List.mem_of_getElem? (i := 6) rfl))) Via.refl e16 S_E (g := (mkF m 12 #[.val (.int u), .val (.int v), .val (.int kk), .unset, .unset, .unset, .unset, .unset, .unset, .unset, .unset] [(.int (1 : Int32)), (.ref b14), (.ref b14)])) rfl (hb hby at_12)
  refine Gl.go ?_ st17
  show Gl _ _ _ _ (T17.setTop (mkF m 15 #[.val (.int u), .val (.int v), .val (.int kk), .unset, .unset, .unset, .unset, .unset, .unset, .unset, .unset] [(.ref aE), (.int (1 : Int32)), (.ref b14), (.ref b14)]))
  obtain ⟨cl18, Ar18, q18, S18, N18, Hh18, G18⟩ := V_b14
  obtain ⟨T18, h18, X18, e18, W18, st18⟩ := stR X17 hx hZ e17 Ar18 (j := (1 : Int32)) (inb_of S18 ⟨by decide, by decide⟩) rfl (Sto.ofV Ar18 q18 O14 (Ins.self E_E)) (g := (mkF m 15 #[.val (.int u), .val (.int v), .val (.int kk), .unset, .unset, .unset, .unset, .unset, .unset, .unset, .unset] [(.ref aE), (.int (1 : Int32)), (.ref b14), (.ref b14)])) rfl rfl (hb hby at_15)
  have S_L := S_L.wr W18
  have S_E := S_E.wr W18
  have S_G := S_G.wr W18
  have S_I := S_I.wr W18
  have E_L := E_L.wr W18
  have E_E := E_E.wr W18
  have E_G := E_G.wr W18
  have E_I := E_I.wr W18
  have Z0 := Nat.le_trans Z0 (Keep.of_wr W18).1
  have V_b14 : Arv Z h18 b14 k14 (.object "com/example/facet/facet/datatypes/Order") (4 : Int32) [(.ref aL), (.ref aE), .null, .null] .null := Arv.set Ar18 q18 S18 N18 Hh18 G18 rfl W18 1 rfl (Nat.le_of_ble_eq_true rfl)
  have NF := Fr.snoc X18 NF g_b14
  refine Gl.go ?_ st18
  show Gl _ _ _ _ (T18.setTop (mkF m 16 #[.val (.int u), .val (.int v), .val (.int kk), .unset, .unset, .unset, .unset, .unset, .unset, .unset, .unset] [(.ref b14)]))
  refine Gl.go ?_ (fun t k => XS.dup X18.here hx rfl (hb hby at_16) rfl rfl k)
  show Gl _ _ _ _ (T18.setTop (mkF m 17 #[.val (.int u), .val (.int v), .val (.int kk), .unset, .unset, .unset, .unset, .unset, .unset, .unset, .unset] [(.ref b14), (.ref b14)]))
  refine Gl.go ?_ (fun t k => XS.iconst X18.here hx rfl (hb hby at_17) k)
  show Gl _ _ _ _ (T18.setTop (mkF m 18 #[.val (.int u), .val (.int v), .val (.int kk), .unset, .unset, .unset, .unset, .unset, .unset, .unset, .unset] [(.int (2 : Int32)), (.ref b14), (.ref b14)]))
  obtain ⟨T19, X19, e19, st19⟩ := getS2 X18 hx hZ hown (host := "") (Or.inl (hw _ (List.mem_of_getElem? (i := 8) rfl))) Via.refl e18 S_G (g := (mkF m 18 #[.val (.int u), .val (.int v), .val (.int kk), .unset, .unset, .unset, .unset, .unset, .unset, .unset, .unset] [(.int (2 : Int32)), (.ref b14), (.ref b14)])) rfl (hb hby at_18)
  refine Gl.go ?_ st19
  show Gl _ _ _ _ (T19.setTop (mkF m 21 #[.val (.int u), .val (.int v), .val (.int kk), .unset, .unset, .unset, .unset, .unset, .unset, .unset, .unset] [(.ref aG), (.int (2 : Int32)), (.ref b14), (.ref b14)]))
  obtain ⟨cl20, Ar20, q20, S20, N20, Hh20, G20⟩ := V_b14
  obtain ⟨T20, h20, X20, e20, W20, st20⟩ := stR X19 hx hZ e19 Ar20 (j := (2 : Int32)) (inb_of S20 ⟨by decide, by decide⟩) rfl (Sto.ofV Ar20 q20 O14 (Ins.self E_G)) (g := (mkF m 21 #[.val (.int u), .val (.int v), .val (.int kk), .unset, .unset, .unset, .unset, .unset, .unset, .unset, .unset] [(.ref aG), (.int (2 : Int32)), (.ref b14), (.ref b14)])) rfl rfl (hb hby at_21)
  have S_L := S_L.wr W20
  have S_E := S_E.wr W20
  have S_G := S_G.wr W20
  have S_I := S_I.wr W20
  have E_L := E_L.wr W20
  have E_E := E_E.wr W20
  have E_G := E_G.wr W20
  have E_I := E_I.wr W20
  have Z0 := Nat.le_trans Z0 (Keep.of_wr W20).1
  have V_b14 : Arv Z h20 b14 k14 (.object "com/example/facet/facet/datatypes/Order") (4 : Int32) [(.ref aL), (.ref aE), (.ref aG), .null] .null := Arv.set Ar20 q20 S20 N20 Hh20 G20 rfl W20 2 rfl (Nat.le_of_ble_eq_true rfl)
  have NF := Fr.snoc X20 NF g_b14
  refine Gl.go ?_ st20
  show Gl _ _ _ _ (T20.setTop (mkF m 22 #[.val (.int u), .val (.int v), .val (.int kk), .unset, .unset, .unset, .unset, .unset, .unset, .unset, .unset] [(.ref b14)]))
  refine Gl.go ?_ (fun t k => XS.dup X20.here hx rfl (hb hby at_22) rfl rfl k)
  show Gl _ _ _ _ (T20.setTop (mkF m 23 #[.val (.int u), .val (.int v), .val (.int kk), .unset, .unset, .unset, .unset, .unset, .unset, .unset, .unset] [(.ref b14), (.ref b14)]))
  refine Gl.go ?_ (fun t k => XS.iconst X20.here hx rfl (hb hby at_23) k)
  show Gl _ _ _ _ (T20.setTop (mkF m 24 #[.val (.int u), .val (.int v), .val (.int kk), .unset, .unset, .unset, .unset, .unset, .unset, .unset, .unset] [(.int (3 : Int32)), (.ref b14), (.ref b14)]))
  obtain ⟨T21, X21, e21, st21⟩ := getS2 X20 hx hZ hown (host := "") (Or.inl (hw _ (List.mem_of_getElem? (i := 10) rfl))) Via.refl e20 S_I (g := (mkF m 24 #[.val (.int u), .val (.int v), .val (.int kk), .unset, .unset, .unset, .unset, .unset, .unset, .unset, .unset] [(.int (3 : Int32)), (.ref b14), (.ref b14)])) rfl (hb hby at_24)
  refine Gl.go ?_ st21
  show Gl _ _ _ _ (T21.setTop (mkF m 27 #[.val (.int u), .val (.int v), .val (.int kk), .unset, .unset, .unset, .unset, .unset, .unset, .unset, .unset] [(.ref aI), (.int (3 : Int32)), (.ref b14), (.ref b14)]))
  obtain ⟨cl22, Ar22, q22, S22, N22, Hh22, G22⟩ := V_b14
  obtain ⟨T22, h22, X22, e22, W22, st22⟩ := stR X21 hx hZ e21 Ar22 (j := (3 : Int32)) (inb_of S22 ⟨by decide, by decide⟩) rfl (Sto.ofV Ar22 q22 O14 (Ins.self E_I)) (g := (mkF m 27 #[.val (.int u), .val (.int v), .val (.int kk), .unset, .unset, .unset, .unset, .unset, .unset, .unset, .unset] [(.ref aI), (.int (3 : Int32)), (.ref b14), (.ref b14)])) rfl rfl (hb hby at_27)
  have S_L := S_L.wr W22
  have S_E := S_E.wr W22
  have S_G := S_G.wr W22
  have S_I := S_I.wr W22
  have E_L := E_L.wr W22
  have E_E := E_E.wr W22
  have E_G := E_G.wr W22
  have E_I := E_I.wr W22
  have Z0 := Nat.le_trans Z0 (Keep.of_wr W22).1
  have V_b14 : Arv Z h22 b14 k14 (.object "com/example/facet/facet/datatypes/Order") (4 : Int32) [(.ref aL), (.ref aE), (.ref aG), (.ref aI)] .null := Arv.set Ar22 q22 S22 N22 Hh22 G22 rfl W22 3 rfl (Nat.le_of_ble_eq_true rfl)
  have NF := Fr.snoc X22 NF g_b14
  refine Gl.go ?_ st22
  show Gl _ _ _ _ (T22.setTop (mkF m 28 #[.val (.int u), .val (.int v), .val (.int kk), .unset, .unset, .unset, .unset, .unset, .unset, .unset, .unset] [(.ref b14)]))
  refine Gl.go ?_ (fun t k => XS.astoreN X22.here hx rfl (hb hby at_28) rfl rfl (l' := #[.val (.int u), .val (.int v), .val (.int kk), .val (.ref b14), .unset, .unset, .unset, .unset, .unset, .unset, .unset]) rfl k)
  show Gl _ _ _ _ (T22.setTop (mkF m 29 #[.val (.int u), .val (.int v), .val (.int kk), .val (.ref b14), .unset, .unset, .unset, .unset, .unset, .unset, .unset] []))
  refine Gl.go ?_ (fun t k => XS.aloadN X22.here hx rfl (hb hby at_29) rfl rfl k)
  show Gl _ _ _ _ (T22.setTop (mkF m 30 #[.val (.int u), .val (.int v), .val (.int kk), .val (.ref b14), .unset, .unset, .unset, .unset, .unset, .unset, .unset] [(.ref b14)]))
  refine Gl.go ?_ (fun t k => XS.iloadN X22.here hx rfl (hb hby at_30) rfl k)
  show Gl _ _ _ _ (T22.setTop (mkF m 31 #[.val (.int u), .val (.int v), .val (.int kk), .val (.ref b14), .unset, .unset, .unset, .unset, .unset, .unset, .unset] [(.int kk), (.ref b14)]))
  refine Gl.go ?_ (fun t k => XS.iconst X22.here hx rfl (hb hby at_31) k)
  show Gl _ _ _ _ (T22.setTop (mkF m 32 #[.val (.int u), .val (.int v), .val (.int kk), .val (.ref b14), .unset, .unset, .unset, .unset, .unset, .unset, .unset] [(.int (3 : Int32)), (.int kk), (.ref b14)]))
  refine Gl.go ?_ (fun t k => XS.iand X22.here hx rfl (hb hby at_32) rfl k)
  show Gl _ _ _ _ (T22.setTop (mkF m 33 #[.val (.int u), .val (.int v), .val (.int kk), .val (.ref b14), .unset, .unset, .unset, .unset, .unset, .unset, .unset] [(.int (kk &&& (3 : Int32))), (.ref b14)]))
  have E_X : Exa Z h22 (own_A aL aE aG aI n) "com/example/facet/facet/datatypes/Order" := own_A4 (P := fun z => Exa Z h22 z "com/example/facet/facet/datatypes/Order") E_L E_E E_G E_I n
  refine Gl.go ?_ (Arv.rdR V_b14 rfl X22 hx hZ e22 hj1 hj2 hj3 (g := (mkF m 33 #[.val (.int u), .val (.int v), .val (.int kk), .val (.ref b14), .unset, .unset, .unset, .unset, .unset, .unset, .unset] [(.int (kk &&& (3 : Int32))), (.ref b14)])) rfl rfl (hb hby at_33))
  show Gl _ _ _ _ (T22.setTop (mkF m 34 #[.val (.int u), .val (.int v), .val (.int kk), .val (.ref b14), .unset, .unset, .unset, .unset, .unset, .unset, .unset] [(.ref (own_A aL aE aG aI n))]))
  refine Gl.go ?_ (fun t k => XS.astore X22.here hx rfl (hb hby at_34) rfl rfl (l' := #[.val (.int u), .val (.int v), .val (.int kk), .val (.ref b14), .val (.ref (own_A aL aE aG aI n)), .unset, .unset, .unset, .unset, .unset, .unset]) rfl k)
  show Gl _ _ _ _ (T22.setTop (mkF m 36 #[.val (.int u), .val (.int v), .val (.int kk), .val (.ref b14), .val (.ref (own_A aL aE aG aI n)), .unset, .unset, .unset, .unset, .unset, .unset] []))
  refine Gl.go ?_ (fun t k => XS.aload X22.here hx rfl (hb hby at_36) rfl rfl k)
  show Gl _ _ _ _ (T22.setTop (mkF m 38 #[.val (.int u), .val (.int v), .val (.int kk), .val (.ref b14), .val (.ref (own_A aL aE aG aI n)), .unset, .unset, .unset, .unset, .unset, .unset] [(.ref (own_A aL aE aG aI n))]))
  have E_r23 : Exa Z h22 (f_rev (own_A aL aE aG aI n) aL aG) "com/example/facet/facet/datatypes/Order" := own_rev (P := fun z => Exa Z h22 z "com/example/facet/facet/datatypes/Order") E_X E_L E_G
  obtain ⟨cq24, kq24, q24a, q24b, q24c⟩ := isOf hZ e22 E_X
  obtain ⟨_, _, ⟨T24, L24, k24, n24⟩, -, X24, ⟨Lc24, hQ24, l24, y24, z24⟩, st24⟩ := X22.virtualBack hx (y := (⟨"com/example/facet/facet/datatypes/Order", "reverse", "()Lcom/example/facet/facet/datatypes/Order;"⟩ : MethodName)) (z := (⟨"com/example/facet/facet/datatypes/Order", "reverse", "()Lcom/example/facet/facet/datatypes/Order;"⟩ : MethodName)) hown (mvT hZ (hw _ (List.mem_of_getElem? (i := 12) rfl))) (mvT hZ (hw _ (List.mem_of_getElem? (i := 13) rfl))) (notFace_of_selects (args := #[]) (mvT hZ (hw _ (List.mem_of_getElem? (i := 15) rfl)))) (mvT hZ (hw _ (List.mem_of_getElem? (i := 15) rfl))) (mvT hZ (hw _ (List.mem_of_getElem? (i := 14) rfl))) (by decide) (backOf (W := 0) (rm1 l Z a0 hw [] (own_A aL aE aG aI n) aL aG h22 S_L S_G) hZ (hw _ (List.mem_of_getElem? (i := 16) rfl)) (hw _ (List.mem_of_getElem? (i := 3) rfl)) (by decide) (by decide)) q24a q24c (g := (mkF m 38 #[.val (.int u), .val (.int v), .val (.int kk), .val (.ref b14), .val (.ref (own_A aL aE aG aI n)), .unset, .unset, .unset, .unset, .unset, .unset] [(.ref (own_A aL aE aG aI n))])) rfl (by rw [hml]; rfl) (Steps.refl _) (argsL := []) (rest := []) (lenOf pd_0 rfl) rfl (by show 2 * 0 + _ ≤ _; exact Nat.le_of_eq rfl) (hb hby at_38) (fun _ _ => ⟨rfl, e22, (by decide : 1 + 0 ≤ _), (by decide : 4 + 0 ≤ _)⟩)
  dsimp only [Pt.U, Pt.locs, Pt.cells, Pt.slots] at X24 l24 y24 z24 st24 hQ24
  subst l24 y24 z24
  obtain ⟨rfl, rfl, e24⟩ := hQ24
  have NF := Fr.app NF (Fr.nil n0)
  refine Gl.tr ?_ st24
  show Gl _ _ _ _ (T24.setTop (mkF m 41 #[.val (.int u), .val (.int v), .val (.int kk), .val (.ref b14), .val (.ref (own_A aL aE aG aI n)), .unset, .unset, .unset, .unset, .unset, .unset] [(.ref (f_rev (own_A aL aE aG aI n) aL aG))]))
  refine Gl.go ?_ (fun t k => XS.astore X24.here hx rfl (hb hby at_41) rfl rfl (l' := #[.val (.int u), .val (.int v), .val (.int kk), .val (.ref b14), .val (.ref (own_A aL aE aG aI n)), .val (.ref (f_rev (own_A aL aE aG aI n) aL aG)), .unset, .unset, .unset, .unset, .unset]) rfl k)
  show Gl _ _ _ _ (T24.setTop (mkF m 43 #[.val (.int u), .val (.int v), .val (.int kk), .val (.ref b14), .val (.ref (own_A aL aE aG aI n)), .val (.ref (f_rev (own_A aL aE aG aI n) aL aG)), .unset, .unset, .unset, .unset, .unset] []))
  refine Gl.go ?_ (fun t k => XS.aload X24.here hx rfl (hb hby at_43) rfl rfl k)
  show Gl _ _ _ _ (T24.setTop (mkF m 45 #[.val (.int u), .val (.int v), .val (.int kk), .val (.ref b14), .val (.ref (own_A aL aE aG aI n)), .val (.ref (f_rev (own_A aL aE aG aI n) aL aG)), .unset, .unset, .unset, .unset, .unset] [(.ref (f_rev (own_A aL aE aG aI n) aL aG))]))
  have E_r25 : Exa Z h22 (f_rev (f_rev (own_A aL aE aG aI n) aL aG) aL aG) "com/example/facet/facet/datatypes/Order" := own_rev (P := fun z => Exa Z h22 z "com/example/facet/facet/datatypes/Order") E_r23 E_L E_G
  obtain ⟨cq26, kq26, q26a, q26b, q26c⟩ := isOf hZ e24 E_r23
  obtain ⟨_, _, ⟨T26, L26, k26, n26⟩, -, X26, ⟨Lc26, hQ26, l26, y26, z26⟩, st26⟩ := X24.virtualBack hx (y := (⟨"com/example/facet/facet/datatypes/Order", "reverse", "()Lcom/example/facet/facet/datatypes/Order;"⟩ : MethodName)) (z := (⟨"com/example/facet/facet/datatypes/Order", "reverse", "()Lcom/example/facet/facet/datatypes/Order;"⟩ : MethodName)) hown (mvT hZ (hw _ (List.mem_of_getElem? (i := 12) rfl))) (mvT hZ (hw _ (List.mem_of_getElem? (i := 13) rfl))) (notFace_of_selects (args := #[]) (mvT hZ (hw _ (List.mem_of_getElem? (i := 15) rfl)))) (mvT hZ (hw _ (List.mem_of_getElem? (i := 15) rfl))) (mvT hZ (hw _ (List.mem_of_getElem? (i := 14) rfl))) (by decide) (backOf (W := 0) (rm1 l Z a0 hw [] (f_rev (own_A aL aE aG aI n) aL aG) aL aG h22 S_L S_G) hZ (hw _ (List.mem_of_getElem? (i := 16) rfl)) (hw _ (List.mem_of_getElem? (i := 3) rfl)) (by decide) (by decide)) q26a q26c (g := (mkF m 45 #[.val (.int u), .val (.int v), .val (.int kk), .val (.ref b14), .val (.ref (own_A aL aE aG aI n)), .val (.ref (f_rev (own_A aL aE aG aI n) aL aG)), .unset, .unset, .unset, .unset, .unset] [(.ref (f_rev (own_A aL aE aG aI n) aL aG))])) rfl (by rw [hml]; rfl) (Steps.refl _) (argsL := []) (rest := []) (lenOf pd_0 rfl) rfl (by show 2 * 0 + _ ≤ _; exact Nat.le_of_eq rfl) (hb hby at_45) (fun _ _ => ⟨rfl, e24, (by decide : 1 + 0 ≤ _), (by decide : 4 + 0 ≤ _)⟩)
  dsimp only [Pt.U, Pt.locs, Pt.cells, Pt.slots] at X26 l26 y26 z26 st26 hQ26
  subst l26 y26 z26
  obtain ⟨rfl, rfl, e26⟩ := hQ26
  have NF := Fr.app NF (Fr.nil n0)
  refine Gl.tr ?_ st26
  show Gl _ _ _ _ (T26.setTop (mkF m 48 #[.val (.int u), .val (.int v), .val (.int kk), .val (.ref b14), .val (.ref (own_A aL aE aG aI n)), .val (.ref (f_rev (own_A aL aE aG aI n) aL aG)), .unset, .unset, .unset, .unset, .unset] [(.ref (f_rev (f_rev (own_A aL aE aG aI n) aL aG) aL aG))]))
  refine Gl.go ?_ (fun t k => XS.aload X26.here hx rfl (hb hby at_48) rfl rfl k)
  show Gl _ _ _ _ (T26.setTop (mkF m 50 #[.val (.int u), .val (.int v), .val (.int kk), .val (.ref b14), .val (.ref (own_A aL aE aG aI n)), .val (.ref (f_rev (own_A aL aE aG aI n) aL aG)), .unset, .unset, .unset, .unset, .unset] [(.ref (own_A aL aE aG aI n)), (.ref (f_rev (f_rev (own_A aL aE aG aI n) aL aG) aL aG))]))
  refine Gl.go ?_ (fun t k => Jvm.RoadKit.acmp (g := (mkF m 50 #[.val (.int u), .val (.int v), .val (.int kk), .val (.ref b14), .val (.ref (own_A aL aE aG aI n)), .val (.ref (f_rev (own_A aL aE aG aI n) aL aG)), .unset, .unset, .unset, .unset, .unset] [(.ref (own_A aL aE aG aI n)), (.ref (f_rev (f_rev (own_A aL aE aG aI n) aL aG) aL aG))])) X26 hx rfl rfl rfl (pc0 := 50) (pc' := 53) (same := true) rfl (hb hby at_50) rfl (decide_eq_true (congrArg Value.ref (own_inv _ hLG))) (by decide) (by decide) k)
  show Gl _ _ _ _ (T26.setTop (mkF m 53 #[.val (.int u), .val (.int v), .val (.int kk), .val (.ref b14), .val (.ref (own_A aL aE aG aI n)), .val (.ref (f_rev (own_A aL aE aG aI n) aL aG)), .unset, .unset, .unset, .unset, .unset] []))
  refine Gl.go ?_ (fun t k => XS.iconst X26.here hx rfl (hb hby at_53) k)
  show Gl _ _ _ _ (T26.setTop (mkF m 54 #[.val (.int u), .val (.int v), .val (.int kk), .val (.ref b14), .val (.ref (own_A aL aE aG aI n)), .val (.ref (f_rev (own_A aL aE aG aI n) aL aG)), .unset, .unset, .unset, .unset, .unset] [(.int (1 : Int32))]))
  refine Gl.go ?_ (fun t k => XS.goto X26.here hx rfl (pc0 := 54) (pc' := 58) rfl (hb hby at_54) (by decide) (by decide) k)
  show Gl _ _ _ _ (T26.setTop (mkF m 58 #[.val (.int u), .val (.int v), .val (.int kk), .val (.ref b14), .val (.ref (own_A aL aE aG aI n)), .val (.ref (f_rev (own_A aL aE aG aI n) aL aG)), .unset, .unset, .unset, .unset, .unset] [(.int (1 : Int32))]))
  refine Gl.go ?_ (fun t k => XS.istore X26.here hx rfl (hb hby at_58) rfl (l' := #[.val (.int u), .val (.int v), .val (.int kk), .val (.ref b14), .val (.ref (own_A aL aE aG aI n)), .val (.ref (f_rev (own_A aL aE aG aI n) aL aG)), .val (.int (1 : Int32)), .unset, .unset, .unset, .unset]) rfl k)
  show Gl _ _ _ _ (T26.setTop (mkF m 60 #[.val (.int u), .val (.int v), .val (.int kk), .val (.ref b14), .val (.ref (own_A aL aE aG aI n)), .val (.ref (f_rev (own_A aL aE aG aI n) aL aG)), .val (.int (1 : Int32)), .unset, .unset, .unset, .unset] []))
  refine Gl.go ?_ (fun t k => XS.aload X26.here hx rfl (hb hby at_60) rfl rfl k)
  show Gl _ _ _ _ (T26.setTop (mkF m 62 #[.val (.int u), .val (.int v), .val (.int kk), .val (.ref b14), .val (.ref (own_A aL aE aG aI n)), .val (.ref (f_rev (own_A aL aE aG aI n) aL aG)), .val (.int (1 : Int32)), .unset, .unset, .unset, .unset] [(.ref (own_A aL aE aG aI n))]))
  obtain ⟨T27, X27, e27, st27⟩ := getS2 X26 hx hZ hown (host := "") (Or.inl (hw _ (List.mem_of_getElem? (i := 10) rfl))) Via.refl e26 S_I (g := (mkF m 62 #[.val (.int u), .val (.int v), .val (.int kk), .val (.ref b14), .val (.ref (own_A aL aE aG aI n)), .val (.ref (f_rev (own_A aL aE aG aI n) aL aG)), .val (.int (1 : Int32)), .unset, .unset, .unset, .unset] [(.ref (own_A aL aE aG aI n))])) rfl (hb hby at_62)
  refine Gl.go ?_ st27
  show Gl _ _ _ _ (T27.setTop (mkF m 65 #[.val (.int u), .val (.int v), .val (.int kk), .val (.ref b14), .val (.ref (own_A aL aE aG aI n)), .val (.ref (f_rev (own_A aL aE aG aI n) aL aG)), .val (.int (1 : Int32)), .unset, .unset, .unset, .unset] [(.ref aI), (.ref (own_A aL aE aG aI n))]))
  by_cases ha28 : (own_A aL aE aG aI n) = aI
  · refine Gl.go ?_ (fun t k => Jvm.RoadKit.acmp (g := (mkF m 65 #[.val (.int u), .val (.int v), .val (.int kk), .val (.ref b14), .val (.ref (own_A aL aE aG aI n)), .val (.ref (f_rev (own_A aL aE aG aI n) aL aG)), .val (.int (1 : Int32)), .unset, .unset, .unset, .unset] [(.ref aI), (.ref (own_A aL aE aG aI n))])) X27 hx rfl rfl rfl (pc0 := 65) (pc' := 68) (same := true) rfl (hb hby at_65) rfl (decide_eq_true (congrArg Value.ref ha28)) (by decide) (by decide) k)
    show Gl _ _ _ _ (T27.setTop (mkF m 68 #[.val (.int u), .val (.int v), .val (.int kk), .val (.ref b14), .val (.ref (own_A aL aE aG aI n)), .val (.ref (f_rev (own_A aL aE aG aI n) aL aG)), .val (.int (1 : Int32)), .unset, .unset, .unset, .unset] []))
    refine Gl.go ?_ (fun t k => XS.aload X27.here hx rfl (hb hby at_68) rfl rfl k)
    show Gl _ _ _ _ (T27.setTop (mkF m 70 #[.val (.int u), .val (.int v), .val (.int kk), .val (.ref b14), .val (.ref (own_A aL aE aG aI n)), .val (.ref (f_rev (own_A aL aE aG aI n) aL aG)), .val (.int (1 : Int32)), .unset, .unset, .unset, .unset] [(.ref (f_rev (own_A aL aE aG aI n) aL aG))]))
    obtain ⟨T29, X29, e29, st29⟩ := getS2 X27 hx hZ hown (host := "") (Or.inl (hw _ (List.mem_of_getElem? (i := 10) rfl))) Via.refl e27 S_I (g := (mkF m 70 #[.val (.int u), .val (.int v), .val (.int kk), .val (.ref b14), .val (.ref (own_A aL aE aG aI n)), .val (.ref (f_rev (own_A aL aE aG aI n) aL aG)), .val (.int (1 : Int32)), .unset, .unset, .unset, .unset] [(.ref (f_rev (own_A aL aE aG aI n) aL aG))])) rfl (hb hby at_70)
    refine Gl.go ?_ st29
    show Gl _ _ _ _ (T29.setTop (mkF m 73 #[.val (.int u), .val (.int v), .val (.int kk), .val (.ref b14), .val (.ref (own_A aL aE aG aI n)), .val (.ref (f_rev (own_A aL aE aG aI n) aL aG)), .val (.int (1 : Int32)), .unset, .unset, .unset, .unset] [(.ref aI), (.ref (f_rev (own_A aL aE aG aI n) aL aG))]))
    refine Gl.go ?_ (fun t k => Jvm.RoadKit.acmp (g := (mkF m 73 #[.val (.int u), .val (.int v), .val (.int kk), .val (.ref b14), .val (.ref (own_A aL aE aG aI n)), .val (.ref (f_rev (own_A aL aE aG aI n) aL aG)), .val (.int (1 : Int32)), .unset, .unset, .unset, .unset] [(.ref aI), (.ref (f_rev (own_A aL aE aG aI n) aL aG))])) X29 hx rfl rfl rfl (pc0 := 73) (pc' := 76) (same := true) rfl (hb hby at_73) rfl (decide_eq_true (congrArg Value.ref (own_fix ha28 hLI hGI))) (by decide) (by decide) k)
    show Gl _ _ _ _ (T29.setTop (mkF m 76 #[.val (.int u), .val (.int v), .val (.int kk), .val (.ref b14), .val (.ref (own_A aL aE aG aI n)), .val (.ref (f_rev (own_A aL aE aG aI n) aL aG)), .val (.int (1 : Int32)), .unset, .unset, .unset, .unset] []))
    refine Gl.go ?_ (fun t k => XS.iconst X29.here hx rfl (hb hby at_76) k)
    show Gl _ _ _ _ (T29.setTop (mkF m 77 #[.val (.int u), .val (.int v), .val (.int kk), .val (.ref b14), .val (.ref (own_A aL aE aG aI n)), .val (.ref (f_rev (own_A aL aE aG aI n) aL aG)), .val (.int (1 : Int32)), .unset, .unset, .unset, .unset] [(.int (1 : Int32))]))
    refine Gl.go ?_ (fun t k => XS.goto X29.here hx rfl (pc0 := 77) (pc' := 81) rfl (hb hby at_77) (by decide) (by decide) k)
    show Gl _ _ _ _ (T29.setTop (mkF m 81 #[.val (.int u), .val (.int v), .val (.int kk), .val (.ref b14), .val (.ref (own_A aL aE aG aI n)), .val (.ref (f_rev (own_A aL aE aG aI n) aL aG)), .val (.int (1 : Int32)), .unset, .unset, .unset, .unset] [(.int (1 : Int32))]))
    refine Gl.go ?_ (fun t k => XS.istore X29.here hx rfl (hb hby at_81) rfl (l' := #[.val (.int u), .val (.int v), .val (.int kk), .val (.ref b14), .val (.ref (own_A aL aE aG aI n)), .val (.ref (f_rev (own_A aL aE aG aI n) aL aG)), .val (.int (1 : Int32)), .val (.int (1 : Int32)), .unset, .unset, .unset]) rfl k)
    show Gl _ _ _ _ (T29.setTop (mkF m 83 #[.val (.int u), .val (.int v), .val (.int kk), .val (.ref b14), .val (.ref (own_A aL aE aG aI n)), .val (.ref (f_rev (own_A aL aE aG aI n) aL aG)), .val (.int (1 : Int32)), .val (.int (1 : Int32)), .unset, .unset, .unset] []))
    refine Gl.go ?_ (fun t k => XS.iloadN X29.here hx rfl (hb hby at_83) rfl k)
    show Gl _ _ _ _ (T29.setTop (mkF m 84 #[.val (.int u), .val (.int v), .val (.int kk), .val (.ref b14), .val (.ref (own_A aL aE aG aI n)), .val (.ref (f_rev (own_A aL aE aG aI n) aL aG)), .val (.int (1 : Int32)), .val (.int (1 : Int32)), .unset, .unset, .unset] [(.int u)]))
    refine Gl.go ?_ (fun t k => XS.iloadN X29.here hx rfl (hb hby at_84) rfl k)
    show Gl _ _ _ _ (T29.setTop (mkF m 85 #[.val (.int u), .val (.int v), .val (.int kk), .val (.ref b14), .val (.ref (own_A aL aE aG aI n)), .val (.ref (f_rev (own_A aL aE aG aI n) aL aG)), .val (.int (1 : Int32)), .val (.int (1 : Int32)), .unset, .unset, .unset] [(.int v), (.int u)]))
    obtain ⟨_, _, ⟨T30, L30, k30, n30⟩, -, X30, ⟨Lc30, hQ30, l30, y30, z30⟩, st30⟩ := Jvm.LawKit.callS X29 hx (y := (⟨"com/example/facet/facet/datatypes/OrderReversePinLaw", "cmp", "(II)I"⟩ : MethodName)) hown (mvT hZ (hw _ (List.mem_of_getElem? (i := 19) rfl))) (mvT hZ (hw _ (List.mem_of_getElem? (i := 20) rfl))) (mvT hZ (hw _ (List.mem_of_getElem? (i := 21) rfl))) (mvT hZ (hw _ (List.mem_of_getElem? (i := 22) rfl))) (by decide) (backOf (W := 0) (rm2 l Z a0 hw [] u v h22) hZ (hw _ (List.mem_of_getElem? (i := 22) rfl)) (hw _ (List.mem_of_getElem? (i := 21) rfl)) (by decide) (by decide)) (g := (mkF m 85 #[.val (.int u), .val (.int v), .val (.int kk), .val (.ref b14), .val (.ref (own_A aL aE aG aI n)), .val (.ref (f_rev (own_A aL aE aG aI n) aL aG)), .val (.int (1 : Int32)), .val (.int (1 : Int32)), .unset, .unset, .unset] [(.int v), (.int u)])) rfl (by rw [hml]; rfl) (argsL := [(.int u), (.int v)]) (rest := []) (lenOf pd_1 rfl) rfl (by show 2 * 0 + _ ≤ _; exact Nat.le_of_eq rfl) (hb hby at_85) (fun _ _ => ⟨rfl, e29, (by decide : 1 + 0 ≤ _), (by decide : 4 + 0 ≤ _)⟩)
    dsimp only [Pt.U, Pt.locs, Pt.cells, Pt.slots] at X30 l30 y30 z30 st30 hQ30
    subst l30 y30 z30
    obtain ⟨rfl, rfl, e30⟩ := hQ30
    have NF := Fr.app NF (Fr.nil n0)
    refine Gl.go ?_ st30
    show Gl _ _ _ _ (T30.setTop (mkF m 88 #[.val (.int u), .val (.int v), .val (.int kk), .val (.ref b14), .val (.ref (own_A aL aE aG aI n)), .val (.ref (f_rev (own_A aL aE aG aI n) aL aG)), .val (.int (1 : Int32)), .val (.int (1 : Int32)), .unset, .unset, .unset] [(.int (f_cmp u v))]))
    have E_o31 : Exa Z h22 (f_of (f_cmp u v) aL aE aG) "com/example/facet/facet/datatypes/Order" := own_of (P := fun z => Exa Z h22 z "com/example/facet/facet/datatypes/Order") _ E_L E_E E_G
    obtain ⟨_, _, ⟨T32, L32, k32, n32⟩, -, X32, ⟨Lc32, hQ32, l32, y32, z32⟩, st32⟩ := Jvm.LawKit.callS X30 hx (y := (⟨"com/example/facet/facet/datatypes/Order", "of", "(I)Lcom/example/facet/facet/datatypes/Order;"⟩ : MethodName)) hown (mvT hZ (hw _ (List.mem_of_getElem? (i := 23) rfl))) (mvT hZ (hw _ (List.mem_of_getElem? (i := 24) rfl))) (mvT hZ (hw _ (List.mem_of_getElem? (i := 3) rfl))) (mvT hZ (hw _ (List.mem_of_getElem? (i := 25) rfl))) (by decide) (backOf (W := 0) (rm3 l Z a0 hw [] (f_cmp u v) aL aE aG h22 S_L S_E S_G) hZ (hw _ (List.mem_of_getElem? (i := 25) rfl)) (hw _ (List.mem_of_getElem? (i := 3) rfl)) (by decide) (by decide)) (g := (mkF m 88 #[.val (.int u), .val (.int v), .val (.int kk), .val (.ref b14), .val (.ref (own_A aL aE aG aI n)), .val (.ref (f_rev (own_A aL aE aG aI n) aL aG)), .val (.int (1 : Int32)), .val (.int (1 : Int32)), .unset, .unset, .unset] [(.int (f_cmp u v))])) rfl (by rw [hml]; rfl) (argsL := [(.int (f_cmp u v))]) (rest := []) (lenOf pd_2 rfl) rfl (by show 2 * 0 + _ ≤ _; exact Nat.le_of_eq rfl) (hb hby at_88) (fun _ _ => ⟨rfl, e30, (by decide : 1 + 0 ≤ _), (by decide : 4 + 0 ≤ _)⟩)
    dsimp only [Pt.U, Pt.locs, Pt.cells, Pt.slots] at X32 l32 y32 z32 st32 hQ32
    subst l32 y32 z32
    obtain ⟨rfl, rfl, e32⟩ := hQ32
    have NF := Fr.app NF (Fr.nil n0)
    refine Gl.go ?_ st32
    show Gl _ _ _ _ (T32.setTop (mkF m 91 #[.val (.int u), .val (.int v), .val (.int kk), .val (.ref b14), .val (.ref (own_A aL aE aG aI n)), .val (.ref (f_rev (own_A aL aE aG aI n) aL aG)), .val (.int (1 : Int32)), .val (.int (1 : Int32)), .unset, .unset, .unset] [(.ref (f_of (f_cmp u v) aL aE aG))]))
    refine Gl.go ?_ (fun t k => XS.astore X32.here hx rfl (hb hby at_91) rfl rfl (l' := #[.val (.int u), .val (.int v), .val (.int kk), .val (.ref b14), .val (.ref (own_A aL aE aG aI n)), .val (.ref (f_rev (own_A aL aE aG aI n) aL aG)), .val (.int (1 : Int32)), .val (.int (1 : Int32)), .val (.ref (f_of (f_cmp u v) aL aE aG)), .unset, .unset]) rfl k)
    show Gl _ _ _ _ (T32.setTop (mkF m 93 #[.val (.int u), .val (.int v), .val (.int kk), .val (.ref b14), .val (.ref (own_A aL aE aG aI n)), .val (.ref (f_rev (own_A aL aE aG aI n) aL aG)), .val (.int (1 : Int32)), .val (.int (1 : Int32)), .val (.ref (f_of (f_cmp u v) aL aE aG)), .unset, .unset] []))
    refine Gl.go ?_ (fun t k => XS.iloadN X32.here hx rfl (hb hby at_93) rfl k)
    show Gl _ _ _ _ (T32.setTop (mkF m 94 #[.val (.int u), .val (.int v), .val (.int kk), .val (.ref b14), .val (.ref (own_A aL aE aG aI n)), .val (.ref (f_rev (own_A aL aE aG aI n) aL aG)), .val (.int (1 : Int32)), .val (.int (1 : Int32)), .val (.ref (f_of (f_cmp u v) aL aE aG)), .unset, .unset] [(.int v)]))
    refine Gl.go ?_ (fun t k => XS.iloadN X32.here hx rfl (hb hby at_94) rfl k)
    show Gl _ _ _ _ (T32.setTop (mkF m 95 #[.val (.int u), .val (.int v), .val (.int kk), .val (.ref b14), .val (.ref (own_A aL aE aG aI n)), .val (.ref (f_rev (own_A aL aE aG aI n) aL aG)), .val (.int (1 : Int32)), .val (.int (1 : Int32)), .val (.ref (f_of (f_cmp u v) aL aE aG)), .unset, .unset] [(.int u), (.int v)]))
    obtain ⟨_, _, ⟨T33, L33, k33, n33⟩, -, X33, ⟨Lc33, hQ33, l33, y33, z33⟩, st33⟩ := Jvm.LawKit.callS X32 hx (y := (⟨"com/example/facet/facet/datatypes/OrderReversePinLaw", "cmp", "(II)I"⟩ : MethodName)) hown (mvT hZ (hw _ (List.mem_of_getElem? (i := 19) rfl))) (mvT hZ (hw _ (List.mem_of_getElem? (i := 20) rfl))) (mvT hZ (hw _ (List.mem_of_getElem? (i := 21) rfl))) (mvT hZ (hw _ (List.mem_of_getElem? (i := 22) rfl))) (by decide) (backOf (W := 0) (rm2 l Z a0 hw [] v u h22) hZ (hw _ (List.mem_of_getElem? (i := 22) rfl)) (hw _ (List.mem_of_getElem? (i := 21) rfl)) (by decide) (by decide)) (g := (mkF m 95 #[.val (.int u), .val (.int v), .val (.int kk), .val (.ref b14), .val (.ref (own_A aL aE aG aI n)), .val (.ref (f_rev (own_A aL aE aG aI n) aL aG)), .val (.int (1 : Int32)), .val (.int (1 : Int32)), .val (.ref (f_of (f_cmp u v) aL aE aG)), .unset, .unset] [(.int u), (.int v)])) rfl (by rw [hml]; rfl) (argsL := [(.int v), (.int u)]) (rest := []) (lenOf pd_1 rfl) rfl (by show 2 * 0 + _ ≤ _; exact Nat.le_of_eq rfl) (hb hby at_95) (fun _ _ => ⟨rfl, e32, (by decide : 1 + 0 ≤ _), (by decide : 4 + 0 ≤ _)⟩)
    dsimp only [Pt.U, Pt.locs, Pt.cells, Pt.slots] at X33 l33 y33 z33 st33 hQ33
    subst l33 y33 z33
    obtain ⟨rfl, rfl, e33⟩ := hQ33
    have NF := Fr.app NF (Fr.nil n0)
    refine Gl.go ?_ st33
    show Gl _ _ _ _ (T33.setTop (mkF m 98 #[.val (.int u), .val (.int v), .val (.int kk), .val (.ref b14), .val (.ref (own_A aL aE aG aI n)), .val (.ref (f_rev (own_A aL aE aG aI n) aL aG)), .val (.int (1 : Int32)), .val (.int (1 : Int32)), .val (.ref (f_of (f_cmp u v) aL aE aG)), .unset, .unset] [(.int (f_cmp v u))]))
    have E_o34 : Exa Z h22 (f_of (f_cmp v u) aL aE aG) "com/example/facet/facet/datatypes/Order" := own_of (P := fun z => Exa Z h22 z "com/example/facet/facet/datatypes/Order") _ E_L E_E E_G
    obtain ⟨_, _, ⟨T35, L35, k35, n35⟩, -, X35, ⟨Lc35, hQ35, l35, y35, z35⟩, st35⟩ := Jvm.LawKit.callS X33 hx (y := (⟨"com/example/facet/facet/datatypes/Order", "of", "(I)Lcom/example/facet/facet/datatypes/Order;"⟩ : MethodName)) hown (mvT hZ (hw _ (List.mem_of_getElem? (i := 23) rfl))) (mvT hZ (hw _ (List.mem_of_getElem? (i := 24) rfl))) (mvT hZ (hw _ (List.mem_of_getElem? (i := 3) rfl))) (mvT hZ (hw _ (List.mem_of_getElem? (i := 25) rfl))) (by decide) (backOf (W := 0) (rm3 l Z a0 hw [] (f_cmp v u) aL aE aG h22 S_L S_E S_G) hZ (hw _ (List.mem_of_getElem? (i := 25) rfl)) (hw _ (List.mem_of_getElem? (i := 3) rfl)) (by decide) (by decide)) (g := (mkF m 98 #[.val (.int u), .val (.int v), .val (.int kk), .val (.ref b14), .val (.ref (own_A aL aE aG aI n)), .val (.ref (f_rev (own_A aL aE aG aI n) aL aG)), .val (.int (1 : Int32)), .val (.int (1 : Int32)), .val (.ref (f_of (f_cmp u v) aL aE aG)), .unset, .unset] [(.int (f_cmp v u))])) rfl (by rw [hml]; rfl) (argsL := [(.int (f_cmp v u))]) (rest := []) (lenOf pd_2 rfl) rfl (by show 2 * 0 + _ ≤ _; exact Nat.le_of_eq rfl) (hb hby at_98) (fun _ _ => ⟨rfl, e33, (by decide : 1 + 0 ≤ _), (by decide : 4 + 0 ≤ _)⟩)
    dsimp only [Pt.U, Pt.locs, Pt.cells, Pt.slots] at X35 l35 y35 z35 st35 hQ35
    subst l35 y35 z35
    obtain ⟨rfl, rfl, e35⟩ := hQ35
    have NF := Fr.app NF (Fr.nil n0)
    refine Gl.go ?_ st35
    show Gl _ _ _ _ (T35.setTop (mkF m 101 #[.val (.int u), .val (.int v), .val (.int kk), .val (.ref b14), .val (.ref (own_A aL aE aG aI n)), .val (.ref (f_rev (own_A aL aE aG aI n) aL aG)), .val (.int (1 : Int32)), .val (.int (1 : Int32)), .val (.ref (f_of (f_cmp u v) aL aE aG)), .unset, .unset] [(.ref (f_of (f_cmp v u) aL aE aG))]))
    refine Gl.go ?_ (fun t k => XS.astore X35.here hx rfl (hb hby at_101) rfl rfl (l' := #[.val (.int u), .val (.int v), .val (.int kk), .val (.ref b14), .val (.ref (own_A aL aE aG aI n)), .val (.ref (f_rev (own_A aL aE aG aI n) aL aG)), .val (.int (1 : Int32)), .val (.int (1 : Int32)), .val (.ref (f_of (f_cmp u v) aL aE aG)), .val (.ref (f_of (f_cmp v u) aL aE aG)), .unset]) rfl k)
    show Gl _ _ _ _ (T35.setTop (mkF m 103 #[.val (.int u), .val (.int v), .val (.int kk), .val (.ref b14), .val (.ref (own_A aL aE aG aI n)), .val (.ref (f_rev (own_A aL aE aG aI n) aL aG)), .val (.int (1 : Int32)), .val (.int (1 : Int32)), .val (.ref (f_of (f_cmp u v) aL aE aG)), .val (.ref (f_of (f_cmp v u) aL aE aG)), .unset] []))
    refine Gl.go ?_ (fun t k => XS.aload X35.here hx rfl (hb hby at_103) rfl rfl k)
    show Gl _ _ _ _ (T35.setTop (mkF m 105 #[.val (.int u), .val (.int v), .val (.int kk), .val (.ref b14), .val (.ref (own_A aL aE aG aI n)), .val (.ref (f_rev (own_A aL aE aG aI n) aL aG)), .val (.int (1 : Int32)), .val (.int (1 : Int32)), .val (.ref (f_of (f_cmp u v) aL aE aG)), .val (.ref (f_of (f_cmp v u) aL aE aG)), .unset] [(.ref (f_of (f_cmp u v) aL aE aG))]))
    have E_r36 : Exa Z h22 (f_rev (f_of (f_cmp u v) aL aE aG) aL aG) "com/example/facet/facet/datatypes/Order" := own_rev (P := fun z => Exa Z h22 z "com/example/facet/facet/datatypes/Order") E_o31 E_L E_G
    obtain ⟨cq37, kq37, q37a, q37b, q37c⟩ := isOf hZ e35 E_o31
    obtain ⟨_, _, ⟨T37, L37, k37, n37⟩, -, X37, ⟨Lc37, hQ37, l37, y37, z37⟩, st37⟩ := X35.virtualBack hx (y := (⟨"com/example/facet/facet/datatypes/Order", "reverse", "()Lcom/example/facet/facet/datatypes/Order;"⟩ : MethodName)) (z := (⟨"com/example/facet/facet/datatypes/Order", "reverse", "()Lcom/example/facet/facet/datatypes/Order;"⟩ : MethodName)) hown (mvT hZ (hw _ (List.mem_of_getElem? (i := 12) rfl))) (mvT hZ (hw _ (List.mem_of_getElem? (i := 13) rfl))) (notFace_of_selects (args := #[]) (mvT hZ (hw _ (List.mem_of_getElem? (i := 15) rfl)))) (mvT hZ (hw _ (List.mem_of_getElem? (i := 15) rfl))) (mvT hZ (hw _ (List.mem_of_getElem? (i := 14) rfl))) (by decide) (backOf (W := 0) (rm1 l Z a0 hw [] (f_of (f_cmp u v) aL aE aG) aL aG h22 S_L S_G) hZ (hw _ (List.mem_of_getElem? (i := 16) rfl)) (hw _ (List.mem_of_getElem? (i := 3) rfl)) (by decide) (by decide)) q37a q37c (g := (mkF m 105 #[.val (.int u), .val (.int v), .val (.int kk), .val (.ref b14), .val (.ref (own_A aL aE aG aI n)), .val (.ref (f_rev (own_A aL aE aG aI n) aL aG)), .val (.int (1 : Int32)), .val (.int (1 : Int32)), .val (.ref (f_of (f_cmp u v) aL aE aG)), .val (.ref (f_of (f_cmp v u) aL aE aG)), .unset] [(.ref (f_of (f_cmp u v) aL aE aG))])) rfl (by rw [hml]; rfl) (Steps.refl _) (argsL := []) (rest := []) (lenOf pd_0 rfl) rfl (by show 2 * 0 + _ ≤ _; exact Nat.le_of_eq rfl) (hb hby at_105) (fun _ _ => ⟨rfl, e35, (by decide : 1 + 0 ≤ _), (by decide : 4 + 0 ≤ _)⟩)
    dsimp only [Pt.U, Pt.locs, Pt.cells, Pt.slots] at X37 l37 y37 z37 st37 hQ37
    subst l37 y37 z37
    obtain ⟨rfl, rfl, e37⟩ := hQ37
    have NF := Fr.app NF (Fr.nil n0)
    refine Gl.tr ?_ st37
    show Gl _ _ _ _ (T37.setTop (mkF m 108 #[.val (.int u), .val (.int v), .val (.int kk), .val (.ref b14), .val (.ref (own_A aL aE aG aI n)), .val (.ref (f_rev (own_A aL aE aG aI n) aL aG)), .val (.int (1 : Int32)), .val (.int (1 : Int32)), .val (.ref (f_of (f_cmp u v) aL aE aG)), .val (.ref (f_of (f_cmp v u) aL aE aG)), .unset] [(.ref (f_rev (f_of (f_cmp u v) aL aE aG) aL aG))]))
    refine Gl.go ?_ (fun t k => XS.aload X37.here hx rfl (hb hby at_108) rfl rfl k)
    show Gl _ _ _ _ (T37.setTop (mkF m 110 #[.val (.int u), .val (.int v), .val (.int kk), .val (.ref b14), .val (.ref (own_A aL aE aG aI n)), .val (.ref (f_rev (own_A aL aE aG aI n) aL aG)), .val (.int (1 : Int32)), .val (.int (1 : Int32)), .val (.ref (f_of (f_cmp u v) aL aE aG)), .val (.ref (f_of (f_cmp v u) aL aE aG)), .unset] [(.ref (f_of (f_cmp v u) aL aE aG)), (.ref (f_rev (f_of (f_cmp u v) aL aE aG) aL aG))]))
    refine Gl.go ?_ (fun t k => Jvm.RoadKit.acmp (g := (mkF m 110 #[.val (.int u), .val (.int v), .val (.int kk), .val (.ref b14), .val (.ref (own_A aL aE aG aI n)), .val (.ref (f_rev (own_A aL aE aG aI n) aL aG)), .val (.int (1 : Int32)), .val (.int (1 : Int32)), .val (.ref (f_of (f_cmp u v) aL aE aG)), .val (.ref (f_of (f_cmp v u) aL aE aG)), .unset] [(.ref (f_of (f_cmp v u) aL aE aG)), (.ref (f_rev (f_of (f_cmp u v) aL aE aG) aL aG))])) X37 hx rfl rfl rfl (pc0 := 110) (pc' := 113) (same := true) rfl (hb hby at_110) rfl (decide_eq_true (congrArg Value.ref (own_swap _ _ hLG hLE hGE))) (by decide) (by decide) k)
    show Gl _ _ _ _ (T37.setTop (mkF m 113 #[.val (.int u), .val (.int v), .val (.int kk), .val (.ref b14), .val (.ref (own_A aL aE aG aI n)), .val (.ref (f_rev (own_A aL aE aG aI n) aL aG)), .val (.int (1 : Int32)), .val (.int (1 : Int32)), .val (.ref (f_of (f_cmp u v) aL aE aG)), .val (.ref (f_of (f_cmp v u) aL aE aG)), .unset] []))
    refine Gl.go ?_ (fun t k => XS.iconst X37.here hx rfl (hb hby at_113) k)
    show Gl _ _ _ _ (T37.setTop (mkF m 114 #[.val (.int u), .val (.int v), .val (.int kk), .val (.ref b14), .val (.ref (own_A aL aE aG aI n)), .val (.ref (f_rev (own_A aL aE aG aI n) aL aG)), .val (.int (1 : Int32)), .val (.int (1 : Int32)), .val (.ref (f_of (f_cmp u v) aL aE aG)), .val (.ref (f_of (f_cmp v u) aL aE aG)), .unset] [(.int (1 : Int32))]))
    refine Gl.go ?_ (fun t k => XS.goto X37.here hx rfl (pc0 := 114) (pc' := 118) rfl (hb hby at_114) (by decide) (by decide) k)
    show Gl _ _ _ _ (T37.setTop (mkF m 118 #[.val (.int u), .val (.int v), .val (.int kk), .val (.ref b14), .val (.ref (own_A aL aE aG aI n)), .val (.ref (f_rev (own_A aL aE aG aI n) aL aG)), .val (.int (1 : Int32)), .val (.int (1 : Int32)), .val (.ref (f_of (f_cmp u v) aL aE aG)), .val (.ref (f_of (f_cmp v u) aL aE aG)), .unset] [(.int (1 : Int32))]))
    refine Gl.go ?_ (fun t k => XS.istore X37.here hx rfl (hb hby at_118) rfl (l' := #[.val (.int u), .val (.int v), .val (.int kk), .val (.ref b14), .val (.ref (own_A aL aE aG aI n)), .val (.ref (f_rev (own_A aL aE aG aI n) aL aG)), .val (.int (1 : Int32)), .val (.int (1 : Int32)), .val (.ref (f_of (f_cmp u v) aL aE aG)), .val (.ref (f_of (f_cmp v u) aL aE aG)), .val (.int (1 : Int32))]) rfl k)
    show Gl _ _ _ _ (T37.setTop (mkF m 120 #[.val (.int u), .val (.int v), .val (.int kk), .val (.ref b14), .val (.ref (own_A aL aE aG aI n)), .val (.ref (f_rev (own_A aL aE aG aI n) aL aG)), .val (.int (1 : Int32)), .val (.int (1 : Int32)), .val (.ref (f_of (f_cmp u v) aL aE aG)), .val (.ref (f_of (f_cmp v u) aL aE aG)), .val (.int (1 : Int32))] []))
    refine Gl.go ?_ (fun t k => XS.iload X37.here hx rfl (hb hby at_120) rfl k)
    show Gl _ _ _ _ (T37.setTop (mkF m 122 #[.val (.int u), .val (.int v), .val (.int kk), .val (.ref b14), .val (.ref (own_A aL aE aG aI n)), .val (.ref (f_rev (own_A aL aE aG aI n) aL aG)), .val (.int (1 : Int32)), .val (.int (1 : Int32)), .val (.ref (f_of (f_cmp u v) aL aE aG)), .val (.ref (f_of (f_cmp v u) aL aE aG)), .val (.int (1 : Int32))] [(.int (1 : Int32))]))
    refine Gl.go ?_ (fun t k => XS.ifNo X37.here hx rfl (hb hby at_122) rfl ((if0 _ _).trans (feq (by decide : ¬ ((1 : Int32) = (0 : Int32)))).1) k)
    show Gl _ _ _ _ (T37.setTop (mkF m 125 #[.val (.int u), .val (.int v), .val (.int kk), .val (.ref b14), .val (.ref (own_A aL aE aG aI n)), .val (.ref (f_rev (own_A aL aE aG aI n) aL aG)), .val (.int (1 : Int32)), .val (.int (1 : Int32)), .val (.ref (f_of (f_cmp u v) aL aE aG)), .val (.ref (f_of (f_cmp v u) aL aE aG)), .val (.int (1 : Int32))] []))
    refine Gl.go ?_ (fun t k => XS.iload X37.here hx rfl (hb hby at_125) rfl k)
    show Gl _ _ _ _ (T37.setTop (mkF m 127 #[.val (.int u), .val (.int v), .val (.int kk), .val (.ref b14), .val (.ref (own_A aL aE aG aI n)), .val (.ref (f_rev (own_A aL aE aG aI n) aL aG)), .val (.int (1 : Int32)), .val (.int (1 : Int32)), .val (.ref (f_of (f_cmp u v) aL aE aG)), .val (.ref (f_of (f_cmp v u) aL aE aG)), .val (.int (1 : Int32))] [(.int (1 : Int32))]))
    refine Gl.go ?_ (fun t k => XS.ifNo X37.here hx rfl (hb hby at_127) rfl ((if0 _ _).trans (feq (by decide : ¬ ((1 : Int32) = (0 : Int32)))).1) k)
    show Gl _ _ _ _ (T37.setTop (mkF m 130 #[.val (.int u), .val (.int v), .val (.int kk), .val (.ref b14), .val (.ref (own_A aL aE aG aI n)), .val (.ref (f_rev (own_A aL aE aG aI n) aL aG)), .val (.int (1 : Int32)), .val (.int (1 : Int32)), .val (.ref (f_of (f_cmp u v) aL aE aG)), .val (.ref (f_of (f_cmp v u) aL aE aG)), .val (.int (1 : Int32))] []))
    refine Gl.go ?_ (fun t k => XS.iload X37.here hx rfl (hb hby at_130) rfl k)
    show Gl _ _ _ _ (T37.setTop (mkF m 132 #[.val (.int u), .val (.int v), .val (.int kk), .val (.ref b14), .val (.ref (own_A aL aE aG aI n)), .val (.ref (f_rev (own_A aL aE aG aI n) aL aG)), .val (.int (1 : Int32)), .val (.int (1 : Int32)), .val (.ref (f_of (f_cmp u v) aL aE aG)), .val (.ref (f_of (f_cmp v u) aL aE aG)), .val (.int (1 : Int32))] [(.int (1 : Int32))]))
    refine Gl.go ?_ (fun t k => XS.ifNo X37.here hx rfl (hb hby at_132) rfl ((if0 _ _).trans (feq (by decide : ¬ ((1 : Int32) = (0 : Int32)))).1) k)
    show Gl _ _ _ _ (T37.setTop (mkF m 135 #[.val (.int u), .val (.int v), .val (.int kk), .val (.ref b14), .val (.ref (own_A aL aE aG aI n)), .val (.ref (f_rev (own_A aL aE aG aI n) aL aG)), .val (.int (1 : Int32)), .val (.int (1 : Int32)), .val (.ref (f_of (f_cmp u v) aL aE aG)), .val (.ref (f_of (f_cmp v u) aL aE aG)), .val (.int (1 : Int32))] []))
    refine Gl.go ?_ (fun t k => XS.iconst X37.here hx rfl (hb hby at_135) k)
    show Gl _ _ _ _ (T37.setTop (mkF m 136 #[.val (.int u), .val (.int v), .val (.int kk), .val (.ref b14), .val (.ref (own_A aL aE aG aI n)), .val (.ref (f_rev (own_A aL aE aG aI n) aL aG)), .val (.int (1 : Int32)), .val (.int (1 : Int32)), .val (.ref (f_of (f_cmp u v) aL aE aG)), .val (.ref (f_of (f_cmp v u) aL aE aG)), .val (.int (1 : Int32))] [(.int (1 : Int32))]))
    refine Gl.go ?_ (fun t k => XS.goto X37.here hx rfl (pc0 := 136) (pc' := 140) rfl (hb hby at_136) (by decide) (by decide) k)
    show Gl _ _ _ _ (T37.setTop (mkF m 140 #[.val (.int u), .val (.int v), .val (.int kk), .val (.ref b14), .val (.ref (own_A aL aE aG aI n)), .val (.ref (f_rev (own_A aL aE aG aI n) aL aG)), .val (.int (1 : Int32)), .val (.int (1 : Int32)), .val (.ref (f_of (f_cmp u v) aL aE aG)), .val (.ref (f_of (f_cmp v u) aL aE aG)), .val (.int (1 : Int32))] [(.int (1 : Int32))]))
    obtain ⟨fs, hr, hrun, hended, hW, hsame⟩ := X37.leave (v := some (.int (1 : Int32))) (fun h => by rw [Bd.returns] at h; cases h)
    exact Gl.mk ⟨_, _, retN X37 hx (t := .boolean) Bd.returns (by simp) (hb hby at_140) hr, hrun, hended, _, _, rfl, ⟨congrArg (fun z => some (Value.int z)) ((if_pos ha28).trans (rfl)).symm, NF⟩, ⟨_, rfl⟩, hW, hsame.mono (by decide) (by decide)⟩
  · refine Gl.go ?_ (fun t k => Jvm.RoadKit.acmp (g := (mkF m 65 #[.val (.int u), .val (.int v), .val (.int kk), .val (.ref b14), .val (.ref (own_A aL aE aG aI n)), .val (.ref (f_rev (own_A aL aE aG aI n) aL aG)), .val (.int (1 : Int32)), .unset, .unset, .unset, .unset] [(.ref aI), (.ref (own_A aL aE aG aI n))])) X27 hx rfl rfl rfl (pc0 := 65) (pc' := 76) (same := false) rfl (hb hby at_65) rfl (decide_eq_false fun q => ha28 (Value.ref.inj q)) (by decide) (by decide) k)
    show Gl _ _ _ _ (T27.setTop (mkF m 76 #[.val (.int u), .val (.int v), .val (.int kk), .val (.ref b14), .val (.ref (own_A aL aE aG aI n)), .val (.ref (f_rev (own_A aL aE aG aI n) aL aG)), .val (.int (1 : Int32)), .unset, .unset, .unset, .unset] []))
    refine Gl.go ?_ (fun t k => XS.iconst X27.here hx rfl (hb hby at_76) k)
    show Gl _ _ _ _ (T27.setTop (mkF m 77 #[.val (.int u), .val (.int v), .val (.int kk), .val (.ref b14), .val (.ref (own_A aL aE aG aI n)), .val (.ref (f_rev (own_A aL aE aG aI n) aL aG)), .val (.int (1 : Int32)), .unset, .unset, .unset, .unset] [(.int (1 : Int32))]))
    refine Gl.go ?_ (fun t k => XS.goto X27.here hx rfl (pc0 := 77) (pc' := 81) rfl (hb hby at_77) (by decide) (by decide) k)
    show Gl _ _ _ _ (T27.setTop (mkF m 81 #[.val (.int u), .val (.int v), .val (.int kk), .val (.ref b14), .val (.ref (own_A aL aE aG aI n)), .val (.ref (f_rev (own_A aL aE aG aI n) aL aG)), .val (.int (1 : Int32)), .unset, .unset, .unset, .unset] [(.int (1 : Int32))]))
    refine Gl.go ?_ (fun t k => XS.istore X27.here hx rfl (hb hby at_81) rfl (l' := #[.val (.int u), .val (.int v), .val (.int kk), .val (.ref b14), .val (.ref (own_A aL aE aG aI n)), .val (.ref (f_rev (own_A aL aE aG aI n) aL aG)), .val (.int (1 : Int32)), .val (.int (1 : Int32)), .unset, .unset, .unset]) rfl k)
    show Gl _ _ _ _ (T27.setTop (mkF m 83 #[.val (.int u), .val (.int v), .val (.int kk), .val (.ref b14), .val (.ref (own_A aL aE aG aI n)), .val (.ref (f_rev (own_A aL aE aG aI n) aL aG)), .val (.int (1 : Int32)), .val (.int (1 : Int32)), .unset, .unset, .unset] []))
    refine Gl.go ?_ (fun t k => XS.iloadN X27.here hx rfl (hb hby at_83) rfl k)
    show Gl _ _ _ _ (T27.setTop (mkF m 84 #[.val (.int u), .val (.int v), .val (.int kk), .val (.ref b14), .val (.ref (own_A aL aE aG aI n)), .val (.ref (f_rev (own_A aL aE aG aI n) aL aG)), .val (.int (1 : Int32)), .val (.int (1 : Int32)), .unset, .unset, .unset] [(.int u)]))
    refine Gl.go ?_ (fun t k => XS.iloadN X27.here hx rfl (hb hby at_84) rfl k)
    show Gl _ _ _ _ (T27.setTop (mkF m 85 #[.val (.int u), .val (.int v), .val (.int kk), .val (.ref b14), .val (.ref (own_A aL aE aG aI n)), .val (.ref (f_rev (own_A aL aE aG aI n) aL aG)), .val (.int (1 : Int32)), .val (.int (1 : Int32)), .unset, .unset, .unset] [(.int v), (.int u)]))
    obtain ⟨_, _, ⟨T38, L38, k38, n38⟩, -, X38, ⟨Lc38, hQ38, l38, y38, z38⟩, st38⟩ := Jvm.LawKit.callS X27 hx (y := (⟨"com/example/facet/facet/datatypes/OrderReversePinLaw", "cmp", "(II)I"⟩ : MethodName)) hown (mvT hZ (hw _ (List.mem_of_getElem? (i := 19) rfl))) (mvT hZ (hw _ (List.mem_of_getElem? (i := 20) rfl))) (mvT hZ (hw _ (List.mem_of_getElem? (i := 21) rfl))) (mvT hZ (hw _ (List.mem_of_getElem? (i := 22) rfl))) (by decide) (backOf (W := 0) (rm2 l Z a0 hw [] u v h22) hZ (hw _ (List.mem_of_getElem? (i := 22) rfl)) (hw _ (List.mem_of_getElem? (i := 21) rfl)) (by decide) (by decide)) (g := (mkF m 85 #[.val (.int u), .val (.int v), .val (.int kk), .val (.ref b14), .val (.ref (own_A aL aE aG aI n)), .val (.ref (f_rev (own_A aL aE aG aI n) aL aG)), .val (.int (1 : Int32)), .val (.int (1 : Int32)), .unset, .unset, .unset] [(.int v), (.int u)])) rfl (by rw [hml]; rfl) (argsL := [(.int u), (.int v)]) (rest := []) (lenOf pd_1 rfl) rfl (by show 2 * 0 + _ ≤ _; exact Nat.le_of_eq rfl) (hb hby at_85) (fun _ _ => ⟨rfl, e27, (by decide : 1 + 0 ≤ _), (by decide : 4 + 0 ≤ _)⟩)
    dsimp only [Pt.U, Pt.locs, Pt.cells, Pt.slots] at X38 l38 y38 z38 st38 hQ38
    subst l38 y38 z38
    obtain ⟨rfl, rfl, e38⟩ := hQ38
    have NF := Fr.app NF (Fr.nil n0)
    refine Gl.go ?_ st38
    show Gl _ _ _ _ (T38.setTop (mkF m 88 #[.val (.int u), .val (.int v), .val (.int kk), .val (.ref b14), .val (.ref (own_A aL aE aG aI n)), .val (.ref (f_rev (own_A aL aE aG aI n) aL aG)), .val (.int (1 : Int32)), .val (.int (1 : Int32)), .unset, .unset, .unset] [(.int (f_cmp u v))]))
    have E_o39 : Exa Z h22 (f_of (f_cmp u v) aL aE aG) "com/example/facet/facet/datatypes/Order" := own_of (P := fun z => Exa Z h22 z "com/example/facet/facet/datatypes/Order") _ E_L E_E E_G
    obtain ⟨_, _, ⟨T40, L40, k40, n40⟩, -, X40, ⟨Lc40, hQ40, l40, y40, z40⟩, st40⟩ := Jvm.LawKit.callS X38 hx (y := (⟨"com/example/facet/facet/datatypes/Order", "of", "(I)Lcom/example/facet/facet/datatypes/Order;"⟩ : MethodName)) hown (mvT hZ (hw _ (List.mem_of_getElem? (i := 23) rfl))) (mvT hZ (hw _ (List.mem_of_getElem? (i := 24) rfl))) (mvT hZ (hw _ (List.mem_of_getElem? (i := 3) rfl))) (mvT hZ (hw _ (List.mem_of_getElem? (i := 25) rfl))) (by decide) (backOf (W := 0) (rm3 l Z a0 hw [] (f_cmp u v) aL aE aG h22 S_L S_E S_G) hZ (hw _ (List.mem_of_getElem? (i := 25) rfl)) (hw _ (List.mem_of_getElem? (i := 3) rfl)) (by decide) (by decide)) (g := (mkF m 88 #[.val (.int u), .val (.int v), .val (.int kk), .val (.ref b14), .val (.ref (own_A aL aE aG aI n)), .val (.ref (f_rev (own_A aL aE aG aI n) aL aG)), .val (.int (1 : Int32)), .val (.int (1 : Int32)), .unset, .unset, .unset] [(.int (f_cmp u v))])) rfl (by rw [hml]; rfl) (argsL := [(.int (f_cmp u v))]) (rest := []) (lenOf pd_2 rfl) rfl (by show 2 * 0 + _ ≤ _; exact Nat.le_of_eq rfl) (hb hby at_88) (fun _ _ => ⟨rfl, e38, (by decide : 1 + 0 ≤ _), (by decide : 4 + 0 ≤ _)⟩)
    dsimp only [Pt.U, Pt.locs, Pt.cells, Pt.slots] at X40 l40 y40 z40 st40 hQ40
    subst l40 y40 z40
    obtain ⟨rfl, rfl, e40⟩ := hQ40
    have NF := Fr.app NF (Fr.nil n0)
    refine Gl.go ?_ st40
    show Gl _ _ _ _ (T40.setTop (mkF m 91 #[.val (.int u), .val (.int v), .val (.int kk), .val (.ref b14), .val (.ref (own_A aL aE aG aI n)), .val (.ref (f_rev (own_A aL aE aG aI n) aL aG)), .val (.int (1 : Int32)), .val (.int (1 : Int32)), .unset, .unset, .unset] [(.ref (f_of (f_cmp u v) aL aE aG))]))
    refine Gl.go ?_ (fun t k => XS.astore X40.here hx rfl (hb hby at_91) rfl rfl (l' := #[.val (.int u), .val (.int v), .val (.int kk), .val (.ref b14), .val (.ref (own_A aL aE aG aI n)), .val (.ref (f_rev (own_A aL aE aG aI n) aL aG)), .val (.int (1 : Int32)), .val (.int (1 : Int32)), .val (.ref (f_of (f_cmp u v) aL aE aG)), .unset, .unset]) rfl k)
    show Gl _ _ _ _ (T40.setTop (mkF m 93 #[.val (.int u), .val (.int v), .val (.int kk), .val (.ref b14), .val (.ref (own_A aL aE aG aI n)), .val (.ref (f_rev (own_A aL aE aG aI n) aL aG)), .val (.int (1 : Int32)), .val (.int (1 : Int32)), .val (.ref (f_of (f_cmp u v) aL aE aG)), .unset, .unset] []))
    refine Gl.go ?_ (fun t k => XS.iloadN X40.here hx rfl (hb hby at_93) rfl k)
    show Gl _ _ _ _ (T40.setTop (mkF m 94 #[.val (.int u), .val (.int v), .val (.int kk), .val (.ref b14), .val (.ref (own_A aL aE aG aI n)), .val (.ref (f_rev (own_A aL aE aG aI n) aL aG)), .val (.int (1 : Int32)), .val (.int (1 : Int32)), .val (.ref (f_of (f_cmp u v) aL aE aG)), .unset, .unset] [(.int v)]))
    refine Gl.go ?_ (fun t k => XS.iloadN X40.here hx rfl (hb hby at_94) rfl k)
    show Gl _ _ _ _ (T40.setTop (mkF m 95 #[.val (.int u), .val (.int v), .val (.int kk), .val (.ref b14), .val (.ref (own_A aL aE aG aI n)), .val (.ref (f_rev (own_A aL aE aG aI n) aL aG)), .val (.int (1 : Int32)), .val (.int (1 : Int32)), .val (.ref (f_of (f_cmp u v) aL aE aG)), .unset, .unset] [(.int u), (.int v)]))
    obtain ⟨_, _, ⟨T41, L41, k41, n41⟩, -, X41, ⟨Lc41, hQ41, l41, y41, z41⟩, st41⟩ := Jvm.LawKit.callS X40 hx (y := (⟨"com/example/facet/facet/datatypes/OrderReversePinLaw", "cmp", "(II)I"⟩ : MethodName)) hown (mvT hZ (hw _ (List.mem_of_getElem? (i := 19) rfl))) (mvT hZ (hw _ (List.mem_of_getElem? (i := 20) rfl))) (mvT hZ (hw _ (List.mem_of_getElem? (i := 21) rfl))) (mvT hZ (hw _ (List.mem_of_getElem? (i := 22) rfl))) (by decide) (backOf (W := 0) (rm2 l Z a0 hw [] v u h22) hZ (hw _ (List.mem_of_getElem? (i := 22) rfl)) (hw _ (List.mem_of_getElem? (i := 21) rfl)) (by decide) (by decide)) (g := (mkF m 95 #[.val (.int u), .val (.int v), .val (.int kk), .val (.ref b14), .val (.ref (own_A aL aE aG aI n)), .val (.ref (f_rev (own_A aL aE aG aI n) aL aG)), .val (.int (1 : Int32)), .val (.int (1 : Int32)), .val (.ref (f_of (f_cmp u v) aL aE aG)), .unset, .unset] [(.int u), (.int v)])) rfl (by rw [hml]; rfl) (argsL := [(.int v), (.int u)]) (rest := []) (lenOf pd_1 rfl) rfl (by show 2 * 0 + _ ≤ _; exact Nat.le_of_eq rfl) (hb hby at_95) (fun _ _ => ⟨rfl, e40, (by decide : 1 + 0 ≤ _), (by decide : 4 + 0 ≤ _)⟩)
    dsimp only [Pt.U, Pt.locs, Pt.cells, Pt.slots] at X41 l41 y41 z41 st41 hQ41
    subst l41 y41 z41
    obtain ⟨rfl, rfl, e41⟩ := hQ41
    have NF := Fr.app NF (Fr.nil n0)
    refine Gl.go ?_ st41
    show Gl _ _ _ _ (T41.setTop (mkF m 98 #[.val (.int u), .val (.int v), .val (.int kk), .val (.ref b14), .val (.ref (own_A aL aE aG aI n)), .val (.ref (f_rev (own_A aL aE aG aI n) aL aG)), .val (.int (1 : Int32)), .val (.int (1 : Int32)), .val (.ref (f_of (f_cmp u v) aL aE aG)), .unset, .unset] [(.int (f_cmp v u))]))
    have E_o42 : Exa Z h22 (f_of (f_cmp v u) aL aE aG) "com/example/facet/facet/datatypes/Order" := own_of (P := fun z => Exa Z h22 z "com/example/facet/facet/datatypes/Order") _ E_L E_E E_G
    obtain ⟨_, _, ⟨T43, L43, k43, n43⟩, -, X43, ⟨Lc43, hQ43, l43, y43, z43⟩, st43⟩ := Jvm.LawKit.callS X41 hx (y := (⟨"com/example/facet/facet/datatypes/Order", "of", "(I)Lcom/example/facet/facet/datatypes/Order;"⟩ : MethodName)) hown (mvT hZ (hw _ (List.mem_of_getElem? (i := 23) rfl))) (mvT hZ (hw _ (List.mem_of_getElem? (i := 24) rfl))) (mvT hZ (hw _ (List.mem_of_getElem? (i := 3) rfl))) (mvT hZ (hw _ (List.mem_of_getElem? (i := 25) rfl))) (by decide) (backOf (W := 0) (rm3 l Z a0 hw [] (f_cmp v u) aL aE aG h22 S_L S_E S_G) hZ (hw _ (List.mem_of_getElem? (i := 25) rfl)) (hw _ (List.mem_of_getElem? (i := 3) rfl)) (by decide) (by decide)) (g := (mkF m 98 #[.val (.int u), .val (.int v), .val (.int kk), .val (.ref b14), .val (.ref (own_A aL aE aG aI n)), .val (.ref (f_rev (own_A aL aE aG aI n) aL aG)), .val (.int (1 : Int32)), .val (.int (1 : Int32)), .val (.ref (f_of (f_cmp u v) aL aE aG)), .unset, .unset] [(.int (f_cmp v u))])) rfl (by rw [hml]; rfl) (argsL := [(.int (f_cmp v u))]) (rest := []) (lenOf pd_2 rfl) rfl (by show 2 * 0 + _ ≤ _; exact Nat.le_of_eq rfl) (hb hby at_98) (fun _ _ => ⟨rfl, e41, (by decide : 1 + 0 ≤ _), (by decide : 4 + 0 ≤ _)⟩)
    dsimp only [Pt.U, Pt.locs, Pt.cells, Pt.slots] at X43 l43 y43 z43 st43 hQ43
    subst l43 y43 z43
    obtain ⟨rfl, rfl, e43⟩ := hQ43
    have NF := Fr.app NF (Fr.nil n0)
    refine Gl.go ?_ st43
    show Gl _ _ _ _ (T43.setTop (mkF m 101 #[.val (.int u), .val (.int v), .val (.int kk), .val (.ref b14), .val (.ref (own_A aL aE aG aI n)), .val (.ref (f_rev (own_A aL aE aG aI n) aL aG)), .val (.int (1 : Int32)), .val (.int (1 : Int32)), .val (.ref (f_of (f_cmp u v) aL aE aG)), .unset, .unset] [(.ref (f_of (f_cmp v u) aL aE aG))]))
    refine Gl.go ?_ (fun t k => XS.astore X43.here hx rfl (hb hby at_101) rfl rfl (l' := #[.val (.int u), .val (.int v), .val (.int kk), .val (.ref b14), .val (.ref (own_A aL aE aG aI n)), .val (.ref (f_rev (own_A aL aE aG aI n) aL aG)), .val (.int (1 : Int32)), .val (.int (1 : Int32)), .val (.ref (f_of (f_cmp u v) aL aE aG)), .val (.ref (f_of (f_cmp v u) aL aE aG)), .unset]) rfl k)
    show Gl _ _ _ _ (T43.setTop (mkF m 103 #[.val (.int u), .val (.int v), .val (.int kk), .val (.ref b14), .val (.ref (own_A aL aE aG aI n)), .val (.ref (f_rev (own_A aL aE aG aI n) aL aG)), .val (.int (1 : Int32)), .val (.int (1 : Int32)), .val (.ref (f_of (f_cmp u v) aL aE aG)), .val (.ref (f_of (f_cmp v u) aL aE aG)), .unset] []))
    refine Gl.go ?_ (fun t k => XS.aload X43.here hx rfl (hb hby at_103) rfl rfl k)
    show Gl _ _ _ _ (T43.setTop (mkF m 105 #[.val (.int u), .val (.int v), .val (.int kk), .val (.ref b14), .val (.ref (own_A aL aE aG aI n)), .val (.ref (f_rev (own_A aL aE aG aI n) aL aG)), .val (.int (1 : Int32)), .val (.int (1 : Int32)), .val (.ref (f_of (f_cmp u v) aL aE aG)), .val (.ref (f_of (f_cmp v u) aL aE aG)), .unset] [(.ref (f_of (f_cmp u v) aL aE aG))]))
    have E_r44 : Exa Z h22 (f_rev (f_of (f_cmp u v) aL aE aG) aL aG) "com/example/facet/facet/datatypes/Order" := own_rev (P := fun z => Exa Z h22 z "com/example/facet/facet/datatypes/Order") E_o39 E_L E_G
    obtain ⟨cq45, kq45, q45a, q45b, q45c⟩ := isOf hZ e43 E_o39
    obtain ⟨_, _, ⟨T45, L45, k45, n45⟩, -, X45, ⟨Lc45, hQ45, l45, y45, z45⟩, st45⟩ := X43.virtualBack hx (y := (⟨"com/example/facet/facet/datatypes/Order", "reverse", "()Lcom/example/facet/facet/datatypes/Order;"⟩ : MethodName)) (z := (⟨"com/example/facet/facet/datatypes/Order", "reverse", "()Lcom/example/facet/facet/datatypes/Order;"⟩ : MethodName)) hown (mvT hZ (hw _ (List.mem_of_getElem? (i := 12) rfl))) (mvT hZ (hw _ (List.mem_of_getElem? (i := 13) rfl))) (notFace_of_selects (args := #[]) (mvT hZ (hw _ (List.mem_of_getElem? (i := 15) rfl)))) (mvT hZ (hw _ (List.mem_of_getElem? (i := 15) rfl))) (mvT hZ (hw _ (List.mem_of_getElem? (i := 14) rfl))) (by decide) (backOf (W := 0) (rm1 l Z a0 hw [] (f_of (f_cmp u v) aL aE aG) aL aG h22 S_L S_G) hZ (hw _ (List.mem_of_getElem? (i := 16) rfl)) (hw _ (List.mem_of_getElem? (i := 3) rfl)) (by decide) (by decide)) q45a q45c (g := (mkF m 105 #[.val (.int u), .val (.int v), .val (.int kk), .val (.ref b14), .val (.ref (own_A aL aE aG aI n)), .val (.ref (f_rev (own_A aL aE aG aI n) aL aG)), .val (.int (1 : Int32)), .val (.int (1 : Int32)), .val (.ref (f_of (f_cmp u v) aL aE aG)), .val (.ref (f_of (f_cmp v u) aL aE aG)), .unset] [(.ref (f_of (f_cmp u v) aL aE aG))])) rfl (by rw [hml]; rfl) (Steps.refl _) (argsL := []) (rest := []) (lenOf pd_0 rfl) rfl (by show 2 * 0 + _ ≤ _; exact Nat.le_of_eq rfl) (hb hby at_105) (fun _ _ => ⟨rfl, e43, (by decide : 1 + 0 ≤ _), (by decide : 4 + 0 ≤ _)⟩)
    dsimp only [Pt.U, Pt.locs, Pt.cells, Pt.slots] at X45 l45 y45 z45 st45 hQ45
    subst l45 y45 z45
    obtain ⟨rfl, rfl, e45⟩ := hQ45
    have NF := Fr.app NF (Fr.nil n0)
    refine Gl.tr ?_ st45
    show Gl _ _ _ _ (T45.setTop (mkF m 108 #[.val (.int u), .val (.int v), .val (.int kk), .val (.ref b14), .val (.ref (own_A aL aE aG aI n)), .val (.ref (f_rev (own_A aL aE aG aI n) aL aG)), .val (.int (1 : Int32)), .val (.int (1 : Int32)), .val (.ref (f_of (f_cmp u v) aL aE aG)), .val (.ref (f_of (f_cmp v u) aL aE aG)), .unset] [(.ref (f_rev (f_of (f_cmp u v) aL aE aG) aL aG))]))
    refine Gl.go ?_ (fun t k => XS.aload X45.here hx rfl (hb hby at_108) rfl rfl k)
    show Gl _ _ _ _ (T45.setTop (mkF m 110 #[.val (.int u), .val (.int v), .val (.int kk), .val (.ref b14), .val (.ref (own_A aL aE aG aI n)), .val (.ref (f_rev (own_A aL aE aG aI n) aL aG)), .val (.int (1 : Int32)), .val (.int (1 : Int32)), .val (.ref (f_of (f_cmp u v) aL aE aG)), .val (.ref (f_of (f_cmp v u) aL aE aG)), .unset] [(.ref (f_of (f_cmp v u) aL aE aG)), (.ref (f_rev (f_of (f_cmp u v) aL aE aG) aL aG))]))
    refine Gl.go ?_ (fun t k => Jvm.RoadKit.acmp (g := (mkF m 110 #[.val (.int u), .val (.int v), .val (.int kk), .val (.ref b14), .val (.ref (own_A aL aE aG aI n)), .val (.ref (f_rev (own_A aL aE aG aI n) aL aG)), .val (.int (1 : Int32)), .val (.int (1 : Int32)), .val (.ref (f_of (f_cmp u v) aL aE aG)), .val (.ref (f_of (f_cmp v u) aL aE aG)), .unset] [(.ref (f_of (f_cmp v u) aL aE aG)), (.ref (f_rev (f_of (f_cmp u v) aL aE aG) aL aG))])) X45 hx rfl rfl rfl (pc0 := 110) (pc' := 113) (same := true) rfl (hb hby at_110) rfl (decide_eq_true (congrArg Value.ref (own_swap _ _ hLG hLE hGE))) (by decide) (by decide) k)
    show Gl _ _ _ _ (T45.setTop (mkF m 113 #[.val (.int u), .val (.int v), .val (.int kk), .val (.ref b14), .val (.ref (own_A aL aE aG aI n)), .val (.ref (f_rev (own_A aL aE aG aI n) aL aG)), .val (.int (1 : Int32)), .val (.int (1 : Int32)), .val (.ref (f_of (f_cmp u v) aL aE aG)), .val (.ref (f_of (f_cmp v u) aL aE aG)), .unset] []))
    refine Gl.go ?_ (fun t k => XS.iconst X45.here hx rfl (hb hby at_113) k)
    show Gl _ _ _ _ (T45.setTop (mkF m 114 #[.val (.int u), .val (.int v), .val (.int kk), .val (.ref b14), .val (.ref (own_A aL aE aG aI n)), .val (.ref (f_rev (own_A aL aE aG aI n) aL aG)), .val (.int (1 : Int32)), .val (.int (1 : Int32)), .val (.ref (f_of (f_cmp u v) aL aE aG)), .val (.ref (f_of (f_cmp v u) aL aE aG)), .unset] [(.int (1 : Int32))]))
    refine Gl.go ?_ (fun t k => XS.goto X45.here hx rfl (pc0 := 114) (pc' := 118) rfl (hb hby at_114) (by decide) (by decide) k)
    show Gl _ _ _ _ (T45.setTop (mkF m 118 #[.val (.int u), .val (.int v), .val (.int kk), .val (.ref b14), .val (.ref (own_A aL aE aG aI n)), .val (.ref (f_rev (own_A aL aE aG aI n) aL aG)), .val (.int (1 : Int32)), .val (.int (1 : Int32)), .val (.ref (f_of (f_cmp u v) aL aE aG)), .val (.ref (f_of (f_cmp v u) aL aE aG)), .unset] [(.int (1 : Int32))]))
    refine Gl.go ?_ (fun t k => XS.istore X45.here hx rfl (hb hby at_118) rfl (l' := #[.val (.int u), .val (.int v), .val (.int kk), .val (.ref b14), .val (.ref (own_A aL aE aG aI n)), .val (.ref (f_rev (own_A aL aE aG aI n) aL aG)), .val (.int (1 : Int32)), .val (.int (1 : Int32)), .val (.ref (f_of (f_cmp u v) aL aE aG)), .val (.ref (f_of (f_cmp v u) aL aE aG)), .val (.int (1 : Int32))]) rfl k)
    show Gl _ _ _ _ (T45.setTop (mkF m 120 #[.val (.int u), .val (.int v), .val (.int kk), .val (.ref b14), .val (.ref (own_A aL aE aG aI n)), .val (.ref (f_rev (own_A aL aE aG aI n) aL aG)), .val (.int (1 : Int32)), .val (.int (1 : Int32)), .val (.ref (f_of (f_cmp u v) aL aE aG)), .val (.ref (f_of (f_cmp v u) aL aE aG)), .val (.int (1 : Int32))] []))
    refine Gl.go ?_ (fun t k => XS.iload X45.here hx rfl (hb hby at_120) rfl k)
    show Gl _ _ _ _ (T45.setTop (mkF m 122 #[.val (.int u), .val (.int v), .val (.int kk), .val (.ref b14), .val (.ref (own_A aL aE aG aI n)), .val (.ref (f_rev (own_A aL aE aG aI n) aL aG)), .val (.int (1 : Int32)), .val (.int (1 : Int32)), .val (.ref (f_of (f_cmp u v) aL aE aG)), .val (.ref (f_of (f_cmp v u) aL aE aG)), .val (.int (1 : Int32))] [(.int (1 : Int32))]))
    refine Gl.go ?_ (fun t k => XS.ifNo X45.here hx rfl (hb hby at_122) rfl ((if0 _ _).trans (feq (by decide : ¬ ((1 : Int32) = (0 : Int32)))).1) k)
    show Gl _ _ _ _ (T45.setTop (mkF m 125 #[.val (.int u), .val (.int v), .val (.int kk), .val (.ref b14), .val (.ref (own_A aL aE aG aI n)), .val (.ref (f_rev (own_A aL aE aG aI n) aL aG)), .val (.int (1 : Int32)), .val (.int (1 : Int32)), .val (.ref (f_of (f_cmp u v) aL aE aG)), .val (.ref (f_of (f_cmp v u) aL aE aG)), .val (.int (1 : Int32))] []))
    refine Gl.go ?_ (fun t k => XS.iload X45.here hx rfl (hb hby at_125) rfl k)
    show Gl _ _ _ _ (T45.setTop (mkF m 127 #[.val (.int u), .val (.int v), .val (.int kk), .val (.ref b14), .val (.ref (own_A aL aE aG aI n)), .val (.ref (f_rev (own_A aL aE aG aI n) aL aG)), .val (.int (1 : Int32)), .val (.int (1 : Int32)), .val (.ref (f_of (f_cmp u v) aL aE aG)), .val (.ref (f_of (f_cmp v u) aL aE aG)), .val (.int (1 : Int32))] [(.int (1 : Int32))]))
    refine Gl.go ?_ (fun t k => XS.ifNo X45.here hx rfl (hb hby at_127) rfl ((if0 _ _).trans (feq (by decide : ¬ ((1 : Int32) = (0 : Int32)))).1) k)
    show Gl _ _ _ _ (T45.setTop (mkF m 130 #[.val (.int u), .val (.int v), .val (.int kk), .val (.ref b14), .val (.ref (own_A aL aE aG aI n)), .val (.ref (f_rev (own_A aL aE aG aI n) aL aG)), .val (.int (1 : Int32)), .val (.int (1 : Int32)), .val (.ref (f_of (f_cmp u v) aL aE aG)), .val (.ref (f_of (f_cmp v u) aL aE aG)), .val (.int (1 : Int32))] []))
    refine Gl.go ?_ (fun t k => XS.iload X45.here hx rfl (hb hby at_130) rfl k)
    show Gl _ _ _ _ (T45.setTop (mkF m 132 #[.val (.int u), .val (.int v), .val (.int kk), .val (.ref b14), .val (.ref (own_A aL aE aG aI n)), .val (.ref (f_rev (own_A aL aE aG aI n) aL aG)), .val (.int (1 : Int32)), .val (.int (1 : Int32)), .val (.ref (f_of (f_cmp u v) aL aE aG)), .val (.ref (f_of (f_cmp v u) aL aE aG)), .val (.int (1 : Int32))] [(.int (1 : Int32))]))
    refine Gl.go ?_ (fun t k => XS.ifNo X45.here hx rfl (hb hby at_132) rfl ((if0 _ _).trans (feq (by decide : ¬ ((1 : Int32) = (0 : Int32)))).1) k)
    show Gl _ _ _ _ (T45.setTop (mkF m 135 #[.val (.int u), .val (.int v), .val (.int kk), .val (.ref b14), .val (.ref (own_A aL aE aG aI n)), .val (.ref (f_rev (own_A aL aE aG aI n) aL aG)), .val (.int (1 : Int32)), .val (.int (1 : Int32)), .val (.ref (f_of (f_cmp u v) aL aE aG)), .val (.ref (f_of (f_cmp v u) aL aE aG)), .val (.int (1 : Int32))] []))
    refine Gl.go ?_ (fun t k => XS.iconst X45.here hx rfl (hb hby at_135) k)
    show Gl _ _ _ _ (T45.setTop (mkF m 136 #[.val (.int u), .val (.int v), .val (.int kk), .val (.ref b14), .val (.ref (own_A aL aE aG aI n)), .val (.ref (f_rev (own_A aL aE aG aI n) aL aG)), .val (.int (1 : Int32)), .val (.int (1 : Int32)), .val (.ref (f_of (f_cmp u v) aL aE aG)), .val (.ref (f_of (f_cmp v u) aL aE aG)), .val (.int (1 : Int32))] [(.int (1 : Int32))]))
    refine Gl.go ?_ (fun t k => XS.goto X45.here hx rfl (pc0 := 136) (pc' := 140) rfl (hb hby at_136) (by decide) (by decide) k)
    show Gl _ _ _ _ (T45.setTop (mkF m 140 #[.val (.int u), .val (.int v), .val (.int kk), .val (.ref b14), .val (.ref (own_A aL aE aG aI n)), .val (.ref (f_rev (own_A aL aE aG aI n) aL aG)), .val (.int (1 : Int32)), .val (.int (1 : Int32)), .val (.ref (f_of (f_cmp u v) aL aE aG)), .val (.ref (f_of (f_cmp v u) aL aE aG)), .val (.int (1 : Int32))] [(.int (1 : Int32))]))
    obtain ⟨fs, hr, hrun, hended, hW, hsame⟩ := X45.leave (v := some (.int (1 : Int32))) (fun h => by rw [Bd.returns] at h; cases h)
    exact Gl.mk ⟨_, _, retN X45 hx (t := .boolean) Bd.returns (by simp) (hb hby at_140) hr, hrun, hended, _, _, rfl, ⟨congrArg (fun z => some (Value.int z)) ((if_neg ha28).trans (rfl)).symm, NF⟩, ⟨_, rfl⟩, hW, hsame.mono (by decide) (by decide)⟩
theorem own_one (aL aE aG aI : Addr) (n : Nat) : f_law aL aE aG aI n = 1 := by
  unfold f_law
  repeat' split
  all_goals rfl
theorem own_m3 (x : Int32) : ∃ n : Nat, n < 4 ∧ (x &&& (3 : Int32)) = Int32.ofNat n := by
  refine ⟨(x &&& 3).toBitVec.toNat, ?_, ?_⟩
  · simp only [Int32.toBitVec_and, BitVec.toNat_and]
    exact Nat.lt_of_le_of_lt Nat.and_le_right (by decide)
  · apply Int32.toBitVec_inj.mp
    show _ = BitVec.ofNat 32 _
    rw [BitVec.ofNat_toNat]; simp
theorem own_j (x : Int32) (aL aE aG aI : Addr) : ∃ n : Nat, ¬ (x &&& (3 : Int32)) < 0 ∧ (x &&& (3 : Int32)) < 4 ∧ ([.ref aL, .ref aE, .ref aG, .ref aI] : List Value).getD (x &&& (3 : Int32)).toNatClampNeg .null = .ref (own_A aL aE aG aI n) := by
  obtain ⟨n, hn, e⟩ := own_m3 x
  refine ⟨n, ?_⟩
  rw [e]
  obtain rfl | rfl | rfl | rfl : n = 0 ∨ n = 1 ∨ n = 2 ∨ n = 3 := by omega
  all_goals exact ⟨by decide, by decide, rfl⟩
set_option maxRecDepth 65536 in
set_option maxHeartbeats 40000000 in
theorem comes_1 {Post : Tables → Env → Array Value → State → Outcome → State → Prop} (hpost : ∀ tb e args s v u, (limb_1_1.after args s (.returned v) u = true ∧ limb_1_2.after args s (.returned v) u = true ∧ True) → FrameEnd s (.returned v) u (Jvm.fieldLocs frame_1_writes args s ++ Jvm.arrayLocs frame_1_arrays args s ++ Jvm.staticLocs frame_1_statics s) 16 128 → Post tb e args s (.returned v) u) :
    ArmFor flags0 classFile x code maxLocals ret World_1 tables_1 room_1 Calls_1 rest_1 Pre_1 Post := by
  intro l hfl _ _ p e ha hc hk s m args below hf hA hF happ hP
  obtain ⟨hcalls, hrest, hpre⟩ := hP
  obtain ⟨-, -, -, hnamed, -, -, -, hat⟩ := (Spec.applies_iff hf).mp happ
  obtain ⟨hg, hn⟩ := and_e (Cond.before_iff.mp (show (Jvm.Cond.and given_1 narrow_1).before args s = true from hpre))
  obtain ⟨g1, g2⟩ := and_e hg
  obtain ⟨g3, g4⟩ := and_e g2
  obtain ⟨g5, g6⟩ := and_e g4
  obtain ⟨g7, g8⟩ := and_e hn
  obtain ⟨g9, g10⟩ := and_e g8
  obtain ⟨g11, g12⟩ := and_e g10
  obtain ⟨g13, g14⟩ := and_e g12
  obtain ⟨g15, g16⟩ := and_e g14
  obtain ⟨g17, g18⟩ := and_e g16
  obtain ⟨g19, g20⟩ := and_e g18
  obtain ⟨w0, w1, w2, rfl⟩ : ∃ w0 w1 w2 : Value, args = #[w0, w1, w2] := by
    have hs : args.size = 3 := by simpa [Cond.value, given_1] using g1
    obtain ⟨L⟩ := args
    match L, hs with
    | [w0, w1, w2], _ => exact ⟨w0, w1, w2, rfl⟩
  have hw := fun d (hd : d ∈ tables_1) => atoms_spec (ws := Jvm.Cond.code x code maxLocals ret :: tables_1) hat d (List.mem_cons_of_mem _ hd)
  have hfit : Fit s := fun {y c} hc i hi => by
    obtain ⟨ha, rfl⟩ := Array.getElem?_eq_some_iff.mp hc
    have q := List.all_eq_true.mp ((Array.all_eq_true_iff_forall_mem.mp hF) _ (Array.getElem_mem ha)) i (List.mem_range.mpr hi)
    simpa [Array.getElem?_eq_getElem hi] using q
  obtain ⟨i0, ei0⟩ := is_v g3
  obtain rfl : w0 = (.int i0) := Option.some.inj ei0
  obtain ⟨i1, ei1⟩ := is_v g5
  obtain rfl : w1 = (.int i1) := Option.some.inj ei1
  obtain ⟨i2, ei2⟩ := is_v g6
  obtain rfl : w2 = (.int i2) := Option.some.inj ei2
  obtain ⟨a_Order_LESS, ev_Order_LESS⟩ := exa_v g7
  have E_Order_LESS := Exa.start ev_Order_LESS g7
  have S_Order_LESS := Sta.start ev_Order_LESS (Or.inr ⟨(hw _ (List.mem_of_getElem? (i := 3) rfl)), (hw _ (List.mem_of_getElem? (i := 4) rfl))⟩)
  obtain ⟨a_Order_EQUAL, ev_Order_EQUAL⟩ := exa_v g9
  have E_Order_EQUAL := Exa.start ev_Order_EQUAL g9
  have S_Order_EQUAL := Sta.start ev_Order_EQUAL (Or.inr ⟨(hw _ (List.mem_of_getElem? (i := 3) rfl)), (hw _ (List.mem_of_getElem? (i := 7) rfl))⟩)
  obtain ⟨a_Order_GREATER, ev_Order_GREATER⟩ := exa_v g11
  have E_Order_GREATER := Exa.start ev_Order_GREATER g11
  have S_Order_GREATER := Sta.start ev_Order_GREATER (Or.inr ⟨(hw _ (List.mem_of_getElem? (i := 3) rfl)), (hw _ (List.mem_of_getElem? (i := 9) rfl))⟩)
  obtain ⟨a_Order_INDETERMINATE, ev_Order_INDETERMINATE⟩ := exa_v g13
  have E_Order_INDETERMINATE := Exa.start ev_Order_INDETERMINATE g13
  have S_Order_INDETERMINATE := Sta.start ev_Order_INDETERMINATE (Or.inr ⟨(hw _ (List.mem_of_getElem? (i := 3) rfl)), (hw _ (List.mem_of_getElem? (i := 11) rfl))⟩)
  have F_Order_GREATER_ordinal := Fld.start ((fld_at ev_Order_GREATER).symm.trans (own_eqv g15 (Term.int_eval (2)) (Or.inr ⟨_, rfl⟩)))
  have F_Order_LESS_ordinal := Fld.start ((fld_at ev_Order_LESS).symm.trans (own_eqv g17 (Term.int_eval (0)) (Or.inr ⟨_, rfl⟩)))
  have F_Order_INDETERMINATE_ordinal := Fld.start ((fld_at ev_Order_INDETERMINATE).symm.trans (own_eqv g19 (Term.int_eval (3)) (Or.inr ⟨_, rfl⟩)))
  have F_Order_EQUAL_ordinal := Fld.start ((fld_at ev_Order_EQUAL).symm.trans (own_eqv g20 (Term.int_eval (1)) (Or.inr ⟨_, rfl⟩)))
  have hLG := Fld.ne F_Order_LESS_ordinal F_Order_GREATER_ordinal (by simp)
  have hLE := Fld.ne F_Order_LESS_ordinal F_Order_EQUAL_ordinal (by simp)
  have hGE := Fld.ne F_Order_GREATER_ordinal F_Order_EQUAL_ordinal (by simp)
  have hLI := Fld.ne F_Order_LESS_ordinal F_Order_INDETERMINATE_ordinal (by simp)
  have hGI := Fld.ne F_Order_GREATER_ordinal F_Order_INDETERMINATE_ordinal (by simp)
  obtain ⟨n, hj1, hj2, hj3⟩ := own_j i2 a_Order_LESS a_Order_EQUAL a_Order_GREATER a_Order_INDETERMINATE
  obtain ⟨n, o, h1, h2, h3, _, L, rfl, ⟨rfl, N⟩, hq⟩ := rm0 l s _ hw tables_1 i0 i1 i2 a_Order_LESS a_Order_EQUAL a_Order_GREATER a_Order_INDETERMINATE n s.heap s.heap.size (Nat.le_refl _) S_Order_LESS S_Order_EQUAL S_Order_GREATER S_Order_INDETERMINATE E_Order_LESS E_Order_EQUAL E_Order_GREATER E_Order_INDETERMINATE hLG hLE hGE hLI hGI hj1 hj2 hj3 p e ha hc hk s m _ below hf ((Spec.applies_iff_loose hf).mp happ).1 ⟨rfl, State.Warmed39.refl s, rfl⟩ trivial
  refine ⟨n, _, h1, h2, h3, hpost _ _ _ _ _ _ ⟨Cond.after_iff.mpr rfl, Cond.after_iff.mpr (eq_i res_at (Term.int_eval (1)) (congrArg Value.int (own_one _ _ _ _ _))), trivial⟩ ⟨hq.1, hq.2.1, (hq.2.2.sift fun y hy => Or.inr (N y hy)).mono (by decide) (by decide)⟩⟩
theorem main_1_1 : Claimed_1_1 := comes_1 fun _ _ _ _ _ _ h hF => ⟨h.1, hF⟩
theorem main_1_2 : Claimed_1_2 := comes_1 fun _ _ _ _ _ _ h hF => ⟨h.2.1, hF⟩
end Jvm.Pilot.@@N@@
namespace Jvm.Pilot.@@N@@
open Jvm Jvm.ClassFile Sem Op Lib Jvm.Free Jvm.Stand Jvm.Pilot.@@N@@.Jvm.D
/-! MADE BY PROGRAM (witnessworld.py) out of the Statement's table words and the real class files: 13 classes; the members and pool entries that the words name. The judged class is class 1, her method 2. -/
namespace start1
open Jvm.ClassFile
def u (s : String) : CpInfo := .utf8 (stringToUtf16 s)
/-- a pool by its gaps: so many unusable entries, then the entry; so many at the end -/
def gap : Nat → List CpInfo → List CpInfo
  | 0, r => r
  | n + 1, r => .unusable :: gap n r
def poolList (es : List (Nat × CpInfo)) (last : Nat) : List CpInfo := es.foldr (fun e r => gap e.1 (e.2 :: r)) (gap last [])
def pool (es : List (Nat × CpInfo)) (last : Nat) : Array CpInfo := ⟨poolList es last⟩
def fileOf (pool : Array CpInfo) (this : Nat) (attrs : Array Attribute := #[]) (ms : Array MethodInfo := #[]) (fl : Nat := 33) (sup : Nat := 0) (ifs : Array Nat := #[]) (fds : Array FieldInfo := #[]) : ClassFile where
  minorVersion := 0
  majorVersion := 65
  constantPool := pool
  accessFlags := fl
  thisClass := this
  superClass := sup
  interfaces := ifs
  fields := fds
  methods := ms
  attributes := attrs
def plain (name : String) (sup : Option ClassId) : Class where
  name := name
  kind := .ordinary
  loader := none
  accessFlags := 33
  super := sup
  interfaces := #[]
  cf := none
  fields := #[]
  methods := #[]
  instanceTypes := #[]
  staticTypes := #[]
  resolved := #[]
  callSites := []
  init := .initialized
  statics := none
  mirror := none

def pool0 : Array CpInfo := pool [(5, u "<init>"), (0, u "()V"), (1, .class_ 10), (1, u "java/lang/Object")] 113

def k0m0 : Method := { name := "<init>", desc := "()V", sig := { parameters := [], returnType := none }, accessFlags := 1, code := none }
/-- java/lang/Object -/
def k0 : Class := { plain "java/lang/Object" none with
  accessFlags := 33
  interfaces := #[]
  cf := some (fileOf pool0 8 #[] #[{ accessFlags := 1, nameIndex := 5, descriptorIndex := 6, attributes := #[] }] 33 0 #[] #[])
  fields := #[]
  methods := #[k0m0]
  instanceTypes := #[]
  staticTypes := #[]
  resolved := Array.replicate 124 none
  statics := none }

def pool1 : Array CpInfo := pool [(2, .class_ 4), (1, u "java/lang/Object"), (0, u "<init>"), (0, u "()V"), (0, .class_ 8), (0, u "com/example/facet/facet/datatypes/Order"), (0, .fieldref 7 10), (0, .nameAndType 11 12), (0, u "LESS"), (0, u "Lcom/example/facet/facet/datatypes/Order;"), (0, .fieldref 7 14), (0, .nameAndType 15 12), (0, u "EQUAL"), (0, .fieldref 7 17), (0, .nameAndType 18 12), (0, u "GREATER"), (0, .fieldref 7 20), (0, .nameAndType 21 12), (0, u "INDETERMINATE"), (0, .methodref 7 23), (0, .nameAndType 24 25), (0, u "reverse"), (0, u "()Lcom/example/facet/facet/datatypes/Order;"), (0, .methodref 27 28), (0, .class_ 29), (0, .nameAndType 30 31), (0, u "com/example/facet/facet/datatypes/OrderReversePinLaw"), (0, u "cmp"), (0, u "(II)I"), (0, .methodref 7 33), (0, .nameAndType 34 35), (0, u "of"), (0, u "(I)Lcom/example/facet/facet/datatypes/Order;"), (3, u "law"), (0, u "(III)Z")] 4

def k1m0 : Method := { name := "<init>", desc := "()V", sig := { parameters := [], returnType := none }, accessFlags := 1, code := none }
def k1c1 : Code := { maxStack := 2, maxLocals := 2, code := method_2_code, exceptionTable := #[], attributes := #[] }
def k1m1 : Method := { name := "cmp", desc := "(II)I", sig := { parameters := [.int, .int], returnType := some .int }, accessFlags := 10, code := some k1c1 }
def k1c2 : Code := { maxStack := 4, maxLocals := 11, code := code, exceptionTable := #[], attributes := #[] }
def k1m2 : Method := { name := "law", desc := "(III)Z", sig := { parameters := [.int, .int, .int], returnType := some .boolean }, accessFlags := 9, code := some k1c2 }
/-- com/example/facet/facet/datatypes/OrderReversePinLaw -/
def k1 : Class := { plain "com/example/facet/facet/datatypes/OrderReversePinLaw" (some 0) with
  accessFlags := 49
  interfaces := #[]
  cf := some (fileOf pool1 27 #[] #[{ accessFlags := 1, nameIndex := 5, descriptorIndex := 6, attributes := #[] }, { accessFlags := 10, nameIndex := 30, descriptorIndex := 31, attributes := #[] }, { accessFlags := 9, nameIndex := 39, descriptorIndex := 40, attributes := #[] }] 49 2 #[] #[])
  fields := #[]
  methods := #[k1m0, k1m1, k1m2]
  instanceTypes := #[]
  staticTypes := #[]
  resolved := Array.replicate 45 none
  statics := none }

def pool2 : Array CpInfo := pool [(1, .class_ 2), (0, u "java/lang/constant/Constable"), (0, .class_ 4), (0, u "java/lang/Object")] 6

/-- java/lang/constant/Constable -/
def k2 : Class := { plain "java/lang/constant/Constable" (some 0) with
  accessFlags := 1537
  interfaces := #[]
  cf := some (fileOf pool2 1 #[] #[] 1537 3 #[] #[])
  fields := #[]
  methods := #[]
  instanceTypes := #[]
  staticTypes := #[]
  resolved := Array.replicate 11 none
  statics := none }

def pool3 : Array CpInfo := pool [(1, .class_ 2), (0, u "java/lang/Comparable"), (0, .class_ 4), (0, u "java/lang/Object")] 7

/-- java/lang/Comparable -/
def k3 : Class := { plain "java/lang/Comparable" (some 0) with
  accessFlags := 1537
  interfaces := #[]
  cf := some (fileOf pool3 1 #[] #[] 1537 3 #[] #[])
  fields := #[]
  methods := #[]
  instanceTypes := #[]
  staticTypes := #[]
  resolved := Array.replicate 12 none
  statics := none }

def pool4 : Array CpInfo := pool [(1, .class_ 2), (0, u "java/io/Serializable"), (0, .class_ 4), (0, u "java/lang/Object")] 2

/-- java/io/Serializable -/
def k4 : Class := { plain "java/io/Serializable" (some 0) with
  accessFlags := 1537
  interfaces := #[]
  cf := some (fileOf pool4 1 #[] #[] 1537 3 #[] #[])
  fields := #[]
  methods := #[]
  instanceTypes := #[]
  staticTypes := #[]
  resolved := Array.replicate 7 none
  statics := none }

def pool5 : Array CpInfo := pool [(2, .class_ 4), (1, u "java/lang/Enum"), (0, u "name"), (0, u "Ljava/lang/String;"), (2, u "ordinal"), (0, u "I"), (1, .class_ 14), (1, u "java/lang/Object"), (4, u "hash"), (86, .class_ 108), (1, u "java/lang/Enum$EnumDesc"), (2, .class_ 112), (0, u "java/lang/constant/Constable"), (0, .class_ 114), (0, u "java/lang/Comparable"), (0, .class_ 116), (0, u "java/io/Serializable")] 87

/-- java/lang/Enum -/
def k5 : Class := { plain "java/lang/Enum" (some 0) with
  accessFlags := 1057
  interfaces := #[2, 3, 4]
  cf := some (fileOf pool5 2 #[.nestMembers #[106]] #[] 1057 12 #[111, 113, 115] #[{ accessFlags := 18, nameIndex := 5, descriptorIndex := 6, attributes := #[] }, { accessFlags := 18, nameIndex := 9, descriptorIndex := 10, attributes := #[] }, { accessFlags := 2, nameIndex := 19, descriptorIndex := 10, attributes := #[] }])
  fields := #[{ name := "name", type := (.object "java/lang/String"), accessFlags := 18, slot := 0, constantValue := 0 }, { name := "ordinal", type := .int, accessFlags := 18, slot := 1, constantValue := 0 }, { name := "hash", type := .int, accessFlags := 2, slot := 2, constantValue := 0 }]
  methods := #[]
  instanceTypes := #[(.object "java/lang/String"), .int, .int]
  staticTypes := #[]
  resolved := Array.replicate 204 none
  statics := none }

def pool6 : Array CpInfo := pool [(1, .class_ 2), (0, u "com/example/facet/facet/datatypes/Order"), (0, .fieldref 1 4), (0, .nameAndType 5 6), (0, u "LESS"), (0, u "Lcom/example/facet/facet/datatypes/Order;"), (0, .fieldref 1 8), (0, .nameAndType 9 6), (0, u "EQUAL"), (0, .fieldref 1 11), (0, .nameAndType 12 6), (0, u "GREATER"), (2, u "INDETERMINATE"), (2, u "$VALUES"), (0, u "[Lcom/example/facet/facet/datatypes/Order;"), (6, .class_ 28), (1, u "java/lang/Enum"), (22, u "of"), (0, u "(I)Lcom/example/facet/facet/datatypes/Order;"), (1, u "reverse"), (0, u "()Lcom/example/facet/facet/datatypes/Order;")] 4

def k6c0 : Code := { maxStack := 1, maxLocals := 2, code := prog_133_method_4_code, exceptionTable := #[], attributes := #[] }
def k6m0 : Method := { name := "of", desc := "(I)Lcom/example/facet/facet/datatypes/Order;", sig := { parameters := [.int], returnType := some (.object "com/example/facet/facet/datatypes/Order") }, accessFlags := 8, code := some k6c0 }
def k6c1 : Code := { maxStack := 2, maxLocals := 2, code := prog_133_method_5_code, exceptionTable := #[], attributes := #[] }
def k6m1 : Method := { name := "reverse", desc := "()Lcom/example/facet/facet/datatypes/Order;", sig := { parameters := [], returnType := some (.object "com/example/facet/facet/datatypes/Order") }, accessFlags := 0, code := some k6c1 }
/-- com/example/facet/facet/datatypes/Order -/
def k6 : Class := { plain "com/example/facet/facet/datatypes/Order" (some 5) with
  accessFlags := 16432
  interfaces := #[]
  cf := some (fileOf pool6 1 #[] #[{ accessFlags := 8, nameIndex := 51, descriptorIndex := 52, attributes := #[] }, { accessFlags := 0, nameIndex := 54, descriptorIndex := 55, attributes := #[] }] 16432 26 #[] #[{ accessFlags := 16409, nameIndex := 5, descriptorIndex := 6, attributes := #[] }, { accessFlags := 16409, nameIndex := 9, descriptorIndex := 6, attributes := #[] }, { accessFlags := 16409, nameIndex := 12, descriptorIndex := 6, attributes := #[] }, { accessFlags := 16409, nameIndex := 15, descriptorIndex := 6, attributes := #[] }, { accessFlags := 4122, nameIndex := 18, descriptorIndex := 19, attributes := #[] }])
  fields := #[{ name := "LESS", type := (.object "com/example/facet/facet/datatypes/Order"), accessFlags := 16409, slot := 0, constantValue := 0 }, { name := "EQUAL", type := (.object "com/example/facet/facet/datatypes/Order"), accessFlags := 16409, slot := 1, constantValue := 0 }, { name := "GREATER", type := (.object "com/example/facet/facet/datatypes/Order"), accessFlags := 16409, slot := 2, constantValue := 0 }, { name := "INDETERMINATE", type := (.object "com/example/facet/facet/datatypes/Order"), accessFlags := 16409, slot := 3, constantValue := 0 }, { name := "$VALUES", type := (.array (.object "com/example/facet/facet/datatypes/Order")), accessFlags := 4122, slot := 4, constantValue := 0 }]
  methods := #[k6m0, k6m1]
  instanceTypes := #[(.object "java/lang/String"), .int, .int]
  staticTypes := #[(.object "com/example/facet/facet/datatypes/Order"), (.object "com/example/facet/facet/datatypes/Order"), (.object "com/example/facet/facet/datatypes/Order"), (.object "com/example/facet/facet/datatypes/Order"), (.array (.object "com/example/facet/facet/datatypes/Order"))]
  resolved := Array.replicate 60 none
  statics := some 0 }

def pool7 : Array CpInfo := pool [(1, u "java/lang/Cloneable"), (0, .class_ 1), (0, u "java/lang/Object"), (0, .class_ 3)] 3

/-- java/lang/Cloneable -/
def k7 : Class := { plain "java/lang/Cloneable" (some 0) with
  accessFlags := 1537
  interfaces := #[]
  cf := some (fileOf pool7 2 #[] #[] 1537 4 #[] #[])
  fields := #[]
  methods := #[]
  instanceTypes := #[]
  staticTypes := #[]
  resolved := Array.replicate 8 none
  statics := none }

/-- the primitive byte -/
def k8 : Class := { plain "byte" none with kind := .primitive 'B', accessFlags := 0x411 }
/-- [B -/
def k9 : Class := { plain "[B" (some 0) with kind := .array 8 .byte, interfaces := #[7, 4], accessFlags := 1041 }

/-- the primitive int -/
def k10 : Class := { plain "int" none with kind := .primitive 'I', accessFlags := 0x411 }
/-- [I -/
def k11 : Class := { plain "[I" (some 0) with kind := .array 10 .int, interfaces := #[7, 4], accessFlags := 1041 }

/-- [Lcom/example/facet/facet/datatypes/Order; -/
def k12 : Class := { plain "[Lcom/example/facet/facet/datatypes/Order;" (some 0) with kind := .array 6 (.object "com/example/facet/facet/datatypes/Order"), interfaces := #[7, 4], accessFlags := 1041 }

def heap : Heap := #[{ cls := 6, slots := #[.ref 1, .ref 2, .ref 3, .ref 4, .null], vm := .statics 6 },
  { cls := 6, slots := #[.null, .int 0, .int 0], vm := .none },
  { cls := 6, slots := #[.null, .int 1, .int 0], vm := .none },
  { cls := 6, slots := #[.null, .int 2, .int 0], vm := .none },
  { cls := 6, slots := #[.null, .int 3, .int 0], vm := .none }]
def classes : Array Class := #[k0, k1, k2, k3, k4, k5, k6, k7, k8, k9, k10, k11, k12]
def interned : List (Array UInt16 × Addr) := []
def slotsUsed : Nat := 17
def theMethod : MethodId := ⟨1, 2⟩
def args0 : Array Value := #[.int 5, .int 6, .int 7]
def aboutOver (below : List Frame) : State where
  vm := { classes := classes, interned := interned.toArray }
  heap := heap
  slotsUsed := slotsUsed
  threads := #[{ frames := .invoking theMethod args0 :: below }]
def below0 : List Frame := [.native { method := ⟨0, 0⟩, args := #[] }]
def about1 : State := aboutOver below0
def p0 : Program := .bare "" "" ""
def e0 : Env := launch0.env 0 0 0
theorem w_frames : about1.frames = Frame.invoking theMethod args0 :: below0 := rfl
set_option maxRecDepth 65536 in
theorem w_args : argsFit about1.vm theMethod args0 = true := by decide +kernel
set_option maxRecDepth 65536 in
theorem w_heap : heapFits about1 = true := by decide +kernel
set_option maxRecDepth 65536 in
theorem w_runnable : about1.curStatus? = some .runnable := by decide +kernel
set_option maxRecDepth 65536 in
theorem w_alone : about1.alone = true := by decide +kernel
set_option maxRecDepth 65536 in
theorem w_named : about1.methodNamed? x = some theMethod := by decide +kernel
set_option maxRecDepth 65536 in
theorem w_hears : about1.hears theMethod below0 = true := by decide +kernel
set_option maxRecDepth 65536 in
theorem w_ripe : about1.ripe theMethod args0 below0 = true := by decide +kernel
theorem w_running : about1.status = .running := rfl
set_option maxRecDepth 65536 in
theorem w_room : about1.hasRoom e0.platform room_1 = true :=
  launch0.hasRoom_least _ room_1 (by decide +kernel) (by decide +kernel) (by decide +kernel) (by decide +kernel) (by decide +kernel) (by decide +kernel)
theorem allAtoms_all (ts : List Jvm.Cond) (a : Array Jvm.Value) (st : Jvm.State) : (allAtoms ts).before a st = ts.all (fun c => c.before a st) := by
  induction ts with
  | nil => rfl
  | cons c t ih =>
    show (Jvm.Cond.and c (allAtoms t)).before a st = _
    rw [Jvm.Cond.before_and, ih, List.all_cons]
def words1 : List Jvm.Cond := Jvm.Cond.code x code maxLocals ret :: tables_1
/-- a 'code' word, met by the world's own term for the bytes: nothing is compared byte by byte -/
theorem code_word {y : MethodName} {bytes : ByteArray} {mx : Nat} {rt : Option FieldType} {a : Array Value} {s : State} {m : MethodId} {meth : Method} {c : Code} (h1 : s.methodNamed? y = some m) (h2 : s.vm.method? m = some meth) (h3 : meth.code = some c) (h4 : c.code = bytes)
    (h5 : (c.maxLocals == mx && c.exceptionTable.isEmpty && decide (c.maxStack ≤ mostOperands) && decide (meth.sig.returnType = rt) && !meth.locks && decide (parseMethodDescriptor y.desc = some meth.sig)) = true) : (Jvm.Cond.code y bytes mx rt).before a s = true := by
  simp only [Bool.and_eq_true, beq_iff_eq, Bool.not_eq_true', decide_eq_true_eq] at h5
  obtain ⟨⟨⟨⟨⟨g1, g2⟩, g3⟩, g4⟩, g5⟩, g6⟩ := h5
  simp [Cond.before, Cond.holds, Cond.value, h1, h2, h3, h4, g1, g2, g3, g4, g5, g6]
def isCode : Jvm.Cond → Bool
  | .code _ _ _ _ => true
  | _ => false
theorem all_split {L : List Jvm.Cond} {P : Jvm.Cond → Bool} (h1 : L.all (fun c => isCode c || P c) = true) (h2 : ∀ c ∈ L.filter isCode, P c = true) : L.all P = true := by
  refine List.all_eq_true.mpr fun c hc => ?_
  have h := List.all_eq_true.mp h1 c hc
  rcases Bool.eq_false_or_eq_true (isCode c) with hi | hi
  · exact h2 c (List.mem_filter.mpr ⟨hc, hi⟩)
  · simpa [hi] using h
set_option maxRecDepth 65536 in
theorem w_c0 : (Jvm.Cond.code x code maxLocals ret).before args0 about1 = true := code_word (m := ⟨1, 2⟩) (meth := k1m2) (c := k1c2) (by decide +kernel) rfl rfl rfl (by decide +kernel)
set_option maxRecDepth 65536 in
theorem w_c1 : (Jvm.Cond.code ({ cls := "com/example/facet/facet/datatypes/Order", name := "reverse", desc := "()Lcom/example/facet/facet/datatypes/Order;" } : Jvm.MethodName) prog_133_method_5_code (2 : Nat) (Option.some (Jvm.ClassFile.FieldType.object "com/example/facet/facet/datatypes/Order"))).before args0 about1 = true := code_word (m := ⟨6, 1⟩) (meth := k6m1) (c := k6c1) (by decide +kernel) rfl rfl rfl (by decide +kernel)
set_option maxRecDepth 65536 in
theorem w_c2 : (Jvm.Cond.code ({ cls := "com/example/facet/facet/datatypes/OrderReversePinLaw", name := "cmp", desc := "(II)I" } : Jvm.MethodName) method_2_code (2 : Nat) (Option.some Jvm.ClassFile.FieldType.int)).before args0 about1 = true := code_word (m := ⟨1, 1⟩) (meth := k1m1) (c := k1c1) (by decide +kernel) rfl rfl rfl (by decide +kernel)
set_option maxRecDepth 65536 in
theorem w_c3 : (Jvm.Cond.code ({ cls := "com/example/facet/facet/datatypes/Order", name := "of", desc := "(I)Lcom/example/facet/facet/datatypes/Order;" } : Jvm.MethodName) prog_133_method_4_code (2 : Nat) (Option.some (Jvm.ClassFile.FieldType.object "com/example/facet/facet/datatypes/Order"))).before args0 about1 = true := code_word (m := ⟨6, 0⟩) (meth := k6m0) (c := k6c0) (by decide +kernel) rfl rfl rfl (by decide +kernel)
def codes1 : List Jvm.Cond := [Jvm.Cond.code x code maxLocals ret, Jvm.Cond.code ({ cls := "com/example/facet/facet/datatypes/Order", name := "reverse", desc := "()Lcom/example/facet/facet/datatypes/Order;" } : Jvm.MethodName) prog_133_method_5_code (2 : Nat) (Option.some (Jvm.ClassFile.FieldType.object "com/example/facet/facet/datatypes/Order")), Jvm.Cond.code ({ cls := "com/example/facet/facet/datatypes/OrderReversePinLaw", name := "cmp", desc := "(II)I" } : Jvm.MethodName) method_2_code (2 : Nat) (Option.some Jvm.ClassFile.FieldType.int), Jvm.Cond.code ({ cls := "com/example/facet/facet/datatypes/Order", name := "of", desc := "(I)Lcom/example/facet/facet/datatypes/Order;" } : Jvm.MethodName) prog_133_method_4_code (2 : Nat) (Option.some (Jvm.ClassFile.FieldType.object "com/example/facet/facet/datatypes/Order"))]
set_option maxRecDepth 65536 in
theorem codes_eq : words1.filter isCode = codes1 := rfl
theorem w_codes : ∀ c ∈ words1.filter isCode, c.before args0 about1 = true := by
  rw [codes_eq]
  intro c hc
  simp only [codes1, List.mem_cons, List.not_mem_nil, or_false] at hc
  rcases hc with rfl | rfl | rfl | rfl
  · exact w_c0
  · exact w_c1
  · exact w_c2
  · exact w_c3
set_option maxRecDepth 65536 in
theorem w_t1 : (words1.take 24).all (fun c => isCode c || c.before args0 about1) = true := by decide +kernel
set_option maxRecDepth 65536 in
theorem w_t2 : (words1.drop 24).all (fun c => isCode c || c.before args0 about1) = true := by decide +kernel
theorem w_tables : (allAtoms (Jvm.Cond.code x code maxLocals ret :: tables_1)).before args0 about1 = true := by
  rw [allAtoms_all]
  show words1.all (fun c => c.before args0 about1) = true
  refine all_split ?_ w_codes
  rw [← List.take_append_drop 24 words1, List.all_append, w_t1, w_t2]
  rfl
set_option maxRecDepth 65536 in
theorem w_case : (Jvm.Cond.and given_1 narrow_1).before args0 about1 = true := by decide +kernel
theorem w_applies : (headSpec (Jvm.Cond.code x code maxLocals ret :: tables_1) room_1).applies x e0.platform about1 = true :=
  (Spec.applies_iff w_frames).mpr ⟨w_running, w_runnable, w_alone, w_named, w_hears, w_ripe, w_room, w_tables⟩
theorem atStart : AtStart classFile x code maxLocals ret World_1 tables_1 room_1 Calls_1 rest_1 Pre_1 launch0 p0 e0 about1 theMethod args0 below0 :=
  ⟨lists_1, trivial, launch0.admits_env _ _ _, launch0.least_env, fairChoices_fair.cas, fairChoices_fair.clock, w_frames, w_args, w_heap, w_applies, trivial, trivial, w_case⟩
end start1
theorem witness_1 : WitnessClaimed_1 := ⟨start1.p0, start1.e0, start1.about1, start1.theMethod, start1.args0, start1.below0, start1.atStart⟩
end Jvm.Pilot.@@N@@
